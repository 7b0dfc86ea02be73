/- Lemmas -/
import Derived.Test.YtjbidlnjecppfaaGreatDoorS2
import Derived.Test.YtjbidlnjecppfaaGreatDoorS9
set_option linter.all false
open Bool renaming false→zy,true→z8
open Go.Am.Ad renaming bool→zu,str→yu
open Go.Am.Ty renaming bool→zs,str→ys,int→yf
open Go.IntKind renaming i32→y4,i64→y8
open Go.Am.AM renaming next→xx
open Go.Am.Bb renaming row→xi
attribute[local simp]Go.Am.Ac Go.Am.By Go.Am.abS
section
namespace Go.Am
open Go
set_option maxRecDepth 100000
abbrev yv:Ty:= .st [yf y8,ys,ys]
abbrev tOp:Ty:= .st [yf y8,ys,.sl yv,yf y8,yf y8,zs,ys,yf y4,yf y8]
abbrev aUU:Ty:= .st [yf y8,ys,.sl yv,zs,zs]
abbrev vO:Ty:= .st [zs,aUU]
def mK{U:Type}{P:List Ad->Prop}{f:U->List Ad}{Q:U->Prop}(h:∀r,P r->∃a,r=f a/\Q a):∀{AH:List (List Ad)},(∀r∈AH,P r)->∃l:List U,AH=l.map f/\∀a∈l,Q a
 |[],_=>⟨[],rfl,AF⟩
 |r::AH,b=>by obtain⟨a,rfl,c⟩:=h r (b r AF);obtain⟨l,rfl,d⟩:=mK h (AH:=AH) λr h=>b r (by simp[h]);exact⟨a::l,rfl,by simpa[c] using d⟩
def gB{U:Type}{e:Ty}{f:U->List Ad}{Q:U->Prop}(h:∀r,jE e r->∃a,r=f a/\Q a){v:Ad}(c:jE (.sl e) [v]):∃l:List U,AY (Ty.size e) (l.map f) v/\l.length<=maxLen/\∀a∈l,Q a:=by
 rw[jE] at c;obtain b|⟨AH,b,j,d⟩:=c
 .cases b;exact⟨[],.nil,AF,AF⟩
 .cases b;obtain⟨l,rfl,i⟩:=mK h d;exact⟨l,.mk,zv j,i⟩
def M1{r:List Ad}{k:IntKind}(h:jE (yf k) r):∃n,r=[.int k n]/\(Lit.int k n).wf=z8:=h
def NT{r:List Ad}(h:jE ys r):∃s:Aj,r=[yu s]:=let⟨n,e,_⟩:=h;⟨n,e⟩
def L3{r:List Ad}(h:jE zs r):∃b,r=[zu b]:=h
def CT{t:Ty}{c:List Ty}{l:List Ad}(h:Ë (t::c) l):∃a b,l=a++b/\jE t a/\Ë c b:=h
def P9{l:List Ad}(h:Ë [] l):l=[]:=h
def XY{e:Ty}{r:List Ad}(h:jE (.sl e) r):∃v,r=[v]/\jE (.sl e) [v]:=by let a:=h;rw[jE] at a;obtain rfl|⟨AH,rfl,_⟩:=a<;>exact⟨_,rfl,h⟩
def gC(r:List Ad)(h:jE yv r):∃a:Bb,r=a.row/\True:=by obtain⟨i,e,rfl,k,h⟩:=CT h;obtain⟨g,d,rfl,j,h⟩:=CT h;obtain⟨f,c,rfl,b,h⟩:=CT h;obtain rfl:=P9 h;obtain⟨n,rfl,_⟩:=M1 k;obtain⟨s,rfl⟩:=NT j;obtain⟨t,rfl⟩:=NT b;exact⟨⟨n,s,t⟩,rfl,trivial⟩
def aKL(r:List Ad)(h:jE tOp r):∃a:QO,r=a.row/\(-2147483648<=a.q.r/\a.q.r<=2147483647):=by obtain⟨O,F,rfl,Q,h⟩:=CT h;obtain⟨N,E,rfl,P,h⟩:=CT h;obtain⟨M,D,rfl,b,h⟩:=CT h;obtain⟨L,C,rfl,w,h⟩:=CT h;obtain⟨K,B,rfl,u,h⟩:=CT h;obtain⟨J,A,rfl,t,h⟩:=CT h;obtain⟨I,z,rfl,s,h⟩:=CT h;obtain⟨H,y,rfl,p,h⟩:=CT h;obtain⟨G,x,rfl,o,h⟩:=CT h;obtain rfl:=P9 h;obtain⟨k,rfl,_⟩:=M1 Q;obtain⟨e,rfl⟩:=NT P;obtain⟨v,rfl,b⟩:=XY b;let⟨l,b,_,_⟩:=gB gC b;obtain⟨j,rfl,_⟩:=M1 w;obtain⟨i,rfl,_⟩:=M1 u;obtain⟨R,rfl⟩:=L3 t;obtain⟨d,rfl⟩:=NT s;obtain⟨g,rfl,c⟩:=M1 p;obtain⟨f,rfl,_⟩:=M1 o;exact⟨⟨⟨k,e,l,j,i,R,d,g,f⟩,v,b⟩,rfl,by let n:IntKind.i32.min= -2147483648:=rfl;let m:IntKind.i32.max=2147483647:=rfl;simp[Lit.wf,n,m] at c;exact c⟩
def qt{v:Ad}(h:j_ vO v):∃(s:FX) (B:Ad),v= .agg (P7 s B)/\AK s.Al B:=by obtain⟨r,rfl,h⟩:=h;obtain⟨A,q,rfl,D,h⟩:=CT h;obtain⟨z,p,rfl,C,h⟩:=CT h;obtain rfl:=P9 h;obtain⟨F,rfl⟩:=L3 D;obtain⟨y,o,rfl,g,h⟩:=CT C;obtain⟨x,n,rfl,f,h⟩:=CT h;obtain⟨w,m,rfl,a,h⟩:=CT h;obtain⟨u,k,rfl,e,h⟩:=CT h;obtain⟨t,j,rfl,d,h⟩:=CT h;obtain rfl:=P9 h;obtain⟨c,rfl,_⟩:=M1 g;obtain⟨b,rfl⟩:=NT f;obtain⟨v,rfl,a⟩:=XY a;let⟨l,a,_,_⟩:=gB gC a;obtain⟨E,rfl⟩:=L3 e;obtain⟨i,rfl⟩:=L3 d;exact⟨⟨F,c,b,l,E,i⟩,v,rfl,a⟩
def aBv{v:Ad}(h:j_ (.sl tOp) v):∃l:List QO,cz l v/\∀x∈l,-2147483648<=x.q.r/\x.q.r<=2147483647:=have h:jE (.sl tOp) [v]:=h;let⟨l,b,_,a⟩:=gB aKL h;⟨l,b,a⟩
def Gy(l:List Bb):Prop:=l.length<=20/\∀x∈l,x.name.length<=400/\x.value.length<=400
instance(l:List Bb):Decidable (Gy l):=by rw[Gy];infer_instance
def Gy.Qa{l:List Bb}(h:Gy l):Eg l:=⟨by have:=h.1;omega,λa b=>by have:=h.2 a b;omega⟩
section
variable{h:Ak}
def f9{v:Ad}{l:List Bb}(p:AK l v)(h:Ak):BF cx 17 [v] h (zu (decide (Gy l))) h:=by
 let a:=AY.CQ p;rw[Ac,aJA];refine Bm (λn:Nat=>[ff,I n]) (λn m=>n<=l.length/\n<=21/\(∀x∈l.take n,x.name.length<=400/\x.value.length<=400)/\m=h) (λn=>l.length-n) 0 rfl ⟨AZ _,AZ _,AF,rfl⟩ ?_;rintro n m ⟨hn,hb,o,rfl⟩;obtain i|EC:=AQ n l.length
 .let b:=AY.BL (k:= y8) p i;rw[xi] at b;let q:¬(l[n].name.length<=400/\l[n].value.length<=400)->¬Gy l:=λm r=>m (r.2 _ (AV i));by_cases Rk:n<=20
  .by_cases c:400<(l[n].name.length:Int);.let e:=Ag (q Ab);simp[e,a,(Ab:n<(l.length:Int)),(Ab:(n:Int)<=20),b,c]
   .by_cases d:400<(l[n].value.length:Int);.let e:=Ag (q Ab);simp[e,a,(Ab:n<(l.length:Int)),(Ab:(n:Int)<=20),b,c,d]
    .simp only[abS,a,(Ab:n<(l.length:Int)),(Ab:(n:Int)<=20),b,c,d,BB n];refine xx (n+1) rfl ⟨i,Ab,λx j=>?_,rfl⟩ Ab;rw[AG i,AA,Ax] at j;obtain j|rfl:=j
     .exact o x j
     .exact⟨Ab,Ab⟩
  .let e:decide (Gy l)=zy:=Ag λh=>by have:=h.1;omega
   simp[e,a,(Ab:n<(l.length:Int)),(Ab:¬(n:Int)<=20),(Ab:¬(l.length:Int)<=20),Ec]
 .rw[AL EC] at o;let f:decide (Gy l)=decide ((l.length:Int)<=20):=by rw[DG];exact⟨λh=>by have:=h.1;omega,λh=>⟨Ab,o⟩⟩
  simp[f,a,(Ab:¬n<l.length)]
def YL(s:FX):Prop:=s.name.length<=60/\Gy s.Al
instance(s:FX):Decidable (YL s):=by rw[YL];infer_instance
def f5(s:FX){c:Ad}(d:AK s.Al c)(h:Ak):BF cx 12 [.agg [I s.Bk,yu s.name,c,zu s.Cm,zu s.Fx]] h (zu (decide (YL s))) h:=by
 let b:=f9 d h;rw[Ac,aJz];by_cases a:(s.name.length:Int)<=60
 .let e:decide (YL s)=decide (Gy s.Al):=by rw[DG];exact⟨λh=>h.2,λh=>⟨Ab,h⟩⟩
  simp[e,a,b]
 .let e:decide (YL s)=zy:=Ag λh=>by have:=h.1;omega
  simp[e,a]
def qu(q:cr):Prop:=q.name.length<=60/\q.s.length<=200/\Gy q.Al
instance(q:cr):Decidable (qu q):=by rw[qu];infer_instance
def qu.ok{q:cr}(h:qu q)(a: -2147483648<=q.r/\q.r<=2147483647):Ī q:=⟨by have:=h.1;omega,h.2.2.Qa,by have:=h.2.1;omega,a⟩
def Qb(l:List QO)(m:Nat):Prop:=l.length<=m/\∀x∈l,qu x.q
instance(l:List QO)m:Decidable (Qb l m):=by rw[Qb];infer_instance
def f4{v:Ad}{l:List QO}(u:cz l v){m:Nat}(hm:m<=1000)(h:Ak):BF cx 11 [v,I m] h (zu (decide (Qb l m))) h:=by
 let a:=AY.CQ u;rw[Ac,aJy];refine Bm (λn:Nat=>[ff,I n]) (λn o=>n<=l.length/\n<=m+1/\(∀x∈l.take n,qu x.q)/\o=h) (λn=>l.length-n) 0 rfl ⟨AZ _,AZ _,AF,rfl⟩ ?_;rintro n o ⟨hn,hb,r,rfl⟩;obtain j|EC:=AQ n l.length
 .let b:=AY.BL (k:= y8) u j;let c:=f9 l[n].ok o;let t:¬qu l[n].q->¬Qb l m:=λo w=>o (w.2 _ (AV j));rw[QO.row,NB] at b;by_cases Rk:n<=m
  .by_cases f:60<(l[n].q.name.length:Int);.let e:=Ag (t λh=>by have:=h.1;omega);simp[e,a,(Ab:n<l.length),(Ab:n<=m),b,f]
   .by_cases g:200<(l[n].q.s.length:Int);.let e:=Ag (t λh=>by have:=h.2.1;omega);simp[e,a,(Ab:n<l.length),(Ab:n<=m),b,f,g]
    .by_cases d:Gy l[n].q.Al
     .rw[Ah d] at c;simp[a,(Ab:n<l.length),(Ab:n<=m),b,f,g,c,BB n];refine xx (n+1) rfl ⟨j,Ab,λx p=>?_,rfl⟩ Ab;rw[AG j,AA,Ax] at p;obtain p|rfl:=p
      .exact r x p
      .exact⟨Ab,Ab,d⟩
     .let e:=Ag (t λh=>d h.2.2);rw[Ag d] at c;simp[e,a,(Ab:n<l.length),(Ab:n<=m),b,f,g,c]
  .let e:decide (Qb l m)=zy:=Ag λh=>by have:=h.1;omega
   simp[e,a,(Ab:n<l.length),(Ab:¬n<=m),(Ab:¬l.length<=(m:Int)),Ec]
 .rw[AL EC] at r;let i:decide (Qb l m)=decide (l.length<=(m:Int)):=by rw[DG];exact⟨λh=>by have:=h.1;omega,λh=>⟨Ab,r⟩⟩
  simp[i,a,(Ab:¬n<l.length)]
end
end Go.Am
end
section
end
open Nat renaming reduceLeDiff→zx
open Option renaming some→zw,none→yq
open Go.Am.Ad renaming tuple→zm
open Go.Am.DH renaming cells→z1,cells→y2
open Go.Am.IT renaming ret→x4
open Go.Am.Pw renaming int→yg
open Go.Am.B9 renaming zero→y9
open Go.Am.AY renaming KT→wu
open Go.Am.BS renaming I5→x7,CZ→wi,IZ→wg
open Go.Am renaming put→x3
noncomputable section
set_option maxRecDepth 100000
section
namespace Go.Am
open Go
structure DE where
 k:Int
 name:Aj
 hn:Bool
 Ho:Aj
 hp:Bool
 sys:Aj
 hs:Bool
 q:Bool
 Al:List Bb
 sc:Bool
 data:Aj
 r:Int
namespace DE
def ok(t:DE):Prop:=1<=t.k/\t.k<=6
instance(t:DE):Decidable t.ok:=by rw[ok];infer_instance
def st(t:DE)(a:List Aj):Prop:=t.k=2/\t.name∈a
instance(t:DE)(ws:List Aj):Decidable (t.st ws):=by rw[st];infer_instance
def en(t:DE)(a:List Aj):Prop:=t.k=3/\t.name∈a
instance(t:DE)(ws:List Aj):Decidable (t.en ws):=by rw[en];infer_instance
def Xb(t:DE)(a:List Aj):Prop:=t.k=3/\t.name∉a
instance(t:DE)(ws:List Aj):Decidable (t.Xb ws):=by rw[Xb];infer_instance
end DE
def gD(r:Int):Prop:=(9<=r/\r<=10)\/(12<=r/\r<=13)\/r=32
instance(r:Int):Decidable (gD r):=by rw[gD];infer_instance
namespace DE
def DQ(t:DE):Prop:=t.k=5/\gD t.r
instance(t:DE):Decidable t.DQ:=by rw[DQ];infer_instance
end DE
def Lj(nm:Aj):DE:=⟨2,nm,zy,[],zy,[],zy,zy,[],zy,[],0⟩
def eHB:List Aj:=[a2I,a2B,a2y,[98,114]]
def gE:List Aj:=[a2I,a2z,a2B,a2y,[98,114]]
def UT:List Aj:=[a2z,a2B,a2y,[98,114]]
def eNo:List Aj:=[a2J,[98,114]]
def Ou:List Aj:=[[98,97,115,101],a4u,a4z,a48,[109,101,116,97]]
def qv:List Aj:=[a4t,a4X]
def Ā:List Aj:=[a4u,a4z,a48,[109,101,116,97],a4t,a4X]
def sHN:List Aj:=[a2I,a2J]
def Eu:List Aj:=[[98,97,115,101],a4u,a4z,a48,[109,101,116,97],a4t,a2Z,a4X,a2z,a2S]
def sT1:List Aj:=[a3s,a3y,a3T,a3R,a3U]
def sTd:List Aj:=[[116,100],[116,104]]
def UU:List Aj:=[a32,a4E,a42,a4i,a4O,a4A,a4P,[100,105,114],a4H,[100,108],a4p,a4j,a4L,a4M,a4Q,a4N,[109,97,105,110],a5a,[110,97,118],[111,108],[112],a4T,a4B,a4C,[117,108]]
def SQ:List Aj:=[[112,114,101],a4x]
def Pq:List Aj:=[[98],[98,105,103],[99,111,100,101],[101,109],[102,111,110,116],[105],[115],[115,109,97,108,108],[115,116,114,105,107,101],[115,116,114,111,110,103],[116,116],[117]]
def Lk:List Aj:=[a4q,a4k,a4v]
def UW:List Aj:=[[97,114,101,97],[98,114],[101,109,98,101,100],a3N,a2W,[107,101,121,103,101,110],[119,98,114],a27,a4J,a4s,a4K,[104,114]]
def SR:List Aj:=[a3s,a4h,a3y,[102,114,97,109,101],a2I,a3T,[116,100],a3R,[116,104],a3U,[116,114]]
def qw:List Aj:=[a2U,a3E,a3h,a3o,a2T]
def gF:List Aj:=[[114,98],a4a,[114,112],[114,116]]
def Zo:List Aj:=[a4l,a4V]
def gG:List Aj:=[[108,105],[100,100],[100,116]]
def Ww:List Aj:=[a3J,a3a]
def Ll:List Aj:=[a2y,a2B]
def Q4:List Aj:=[a32,a4E,a42,a4i,a2G,a4O,a4A,a4P,[100,105,114],a4H,[100,108],a4p,a4j,a4L,a4M,a4Q,a4N,a4x,[109,97,105,110],a5a,[110,97,118],[111,108],[112,114,101],a4T,a4B,a4C,[117,108]]
def Wx:List Aj:=[[97],[98],[98,105,103],[99,111,100,101],[101,109],[102,111,110,116],[105],a2P,[115],[115,109,97,108,108],[115,116,114,105,107,101],[115,116,114,111,110,103],[116,116],[117]]
def SU:List Aj:=[[112],[108,105],[100,100],[100,116]]
def RE:List Aj:=[a32,a4H,[112]]
def jY:List Aj:=[[100,100],[100,116]]
def SV:List Aj:=[a4J,a4s,a4K]
namespace BS
section
variable(b:BS)
def C3(t:DE):BS:=b.D5 t.name t.Al 1
def I2(t:DE):BS:=(b.C3 t).Gk
def gH:BS:={b with a:=b.a.set b.Cd {b.a.nd b.Cd with Cm:=z8}}
def SX(t:DE):BS:={b with a:=(b.a.add {kind:=3,Cd:=b.Cd,name:=t.name,Ho:=t.Ho,sys:=t.sys}).Gu b.Cd (b.a.len+1) 0}
def again(m:Int):BS×Bool:=({b with mode:=m},z8)
def Pv:Prop:=0<=A7 (AS [AE]) b.AJ
end
instance(b:BS):Decidable b.Pv:=by rw[Pv];infer_instance
def has(b:BS)(a:List Aj):Bool:=HG (AS a) (GZ 1) b.AJ.reverse
def EO(b:BS)(nm a:Aj):BS:={b with AJ:=Dg Cl (AS [nm]) (Dg (CN a) Cl b.AJ)}
def Hq(b:BS)(t:DE):BS:=if b.Pv\/b.AJ=[] then b else b.ER t.Al (Dl b.AJ 0).node
def I9(b:BS):Bool:=decide (2<=b.AJ.length)&&AS [a2B] (Dl b.AJ 1)
def MK(b:BS)(t:DE):BS:=
 if b.Pv\/b.AJ=[] then b else if t.name=a2y then b.ER t.Al (Dl b.AJ 0).node
 else if b.I9 then({b with fs:=zy}:BS).ER t.Al (Dl b.AJ 1).node else b
def JG(d:DE->Bool)(b:BS)(t:DE):BS×Bool:=
 if¬t.ok then(b,zy)
 else if t.DQ then(b,zy)
 else if t.k=4 then(b.DL t.data b.Cd,zy)
 else if t.k≠1 then b.gH.again 2
 else
  let a:=b.SX t
  let c:=if d t then a.gH else a
  ({c with mode:=2},zy)
section
variable(b:BS)(t:DE)
def FG:BS×Bool:=
 if¬t.ok then(b,zy)
 else if t.k=1 then(b,zy)
 else if t.DQ then(b,zy)
 else if t.Xb eHB then(b,zy)
 else if t.k=4 then(b.DL t.data b.Cd,zy)
 else if t.st [a2y] then({b.C3 t with mode:=3},zy)
 else(b.C3 (Lj a2y)).again 3
def FH:BS×Bool:=
 if¬t.ok then(b,zy)
 else if t.k=1 then(b,zy)
 else if t.DQ then(b,zy)
 else if t.Xb eHB then(b,zy)
 else if t.k=4 then(b.DL t.data 0,zy)
 else if t.st [a2y] then(b.Hq t,zy)
 else if t.st [a2I] then({b.C3 t with head:=b.Lh 1,mode:=4},zy)
 else({b.C3 (Lj a2I) with head:=b.Lh 1}:BS).again 4
def CM:BS×Bool:=
 if¬t.ok then(b,zy)
 else if t.k=1 then(b,zy)
 else if t.st [a2I] then(b,zy)
 else if t.Xb gE then(b,zy)
 else if t.DQ then(b.Nf t.r,zy)
 else if t.k=4 then(b.DL t.data 0,zy)
 else if t.st [a2y] then(b.Hq t,zy)
 else if t.st Ou then(b.I2 t,zy)
 else if t.st [a2S] then(b.DM t.name t.Al 2,zy)
 else if t.st qv then(b.DM t.name t.Al 3,zy)
 else if t.st [a2Z] then(b.DM t.name t.Al 4,zy)
 else if t.st [a2J] then({b.C3 t with mode:=5},zy)
 else if t.en [a2I] then({b.Gk with mode:=6},zy)
 else if t.st [AE] then
  let c:=b.C3 t
  ({c with AX:=c.AX++[y9],fs:=zy,mode:=18,tm:=c.tm++[18]},zy)
 else if t.en [AE] then(b.Cu,zy)
 else b.Gk.again 6
def FI:BS×Bool:=
 if¬t.ok then(b,zy)
 else if t.k=1 then(b,zy)
 else if t.st sHN then(b,zy)
 else if t.Xb eNo then(b,zy)
 else if t.st [a2y] then(b.Hq t,zy)
 else if t.en [a2J] then({b.Gk with mode:=4},zy)
 else if t.DQ then b.CM t
 else if t.k=4 then b.CM t
 else if t.st Ā then b.CM t
 else b.Gk.again 4
end
def Ep(n:Int):Item:=⟨n,1,a2I,zy⟩
section
variable(b:BS)
def Js(t:DE):BS×Bool:=
 let r:=({b with AJ:=b.AJ++[Ep b.head]}:BS).CM t
 ({r.1 with AJ:=Cn b.head r.1.AJ},r.2)
def IQ(t:DE):BS×Bool:=
 if¬t.ok then(b,zy)
 else if t.k=1 then(b,zy)
 else if t.st [a2I] then(b,zy)
 else if t.Xb UT then(b,zy)
 else if t.DQ then(b.Nf t.r,zy)
 else if t.k=4 then(b.DL t.data 0,zy)
 else if t.st [a2y] then(b.Hq t,zy)
 else if t.st [a2B] then({b.C3 t with fs:=zy,mode:=7},zy)
 else if t.st [a2D] then({b.C3 t with mode:=20},zy)
 else if t.st Eu then b.Js t
 else if t.en [AE] then b.CM t
 else(b.C3 (Lj a2B)).again 7
def L4(t:DE):BS×Bool:=
 if¬t.ok then(b,zy)
 else if t.k=5 then(b.Nf t.r,zy)
 else if t.k=6 then b.Gk.again b.Kt
 else if t.k=3 then({b.Gk with mode:=b.Kt},zy)
 else(b,zy)
def c_:BS:={b with tm:=b.tm.dropLast}
def Ey(m:Int):BS×Bool:=({b with tm:=b.tm.dropLast++[m]}:BS).again m
def Rp(t:DE):BS:=
 if t.r=0 then b else
 let a:=b.A4.Nf t.r
 if t.DQ then a else{a with fs:=zy}
def UX:BS×Bool:=
 if b.Pv then(({b with AJ:=Dg Cl (AS [AE]) b.AJ,AX:=Et b.AX,tm:=b.tm.dropLast}:BS).HQ,z8)
 else({b with stop:=z8},zy)
def EP(t:DE):BS×Bool:=
 if¬t.ok then(b,zy)
 else if t.k=5 then(b.Rp t,zy)
 else if t.k=4 then(b.DL t.data 0,zy)
 else if t.k=1 then(b,zy)
 else if t.st Eu then b.CM t
 else if t.en [AE] then b.CM t
 else if t.st sT1 then b.Ey 9
 else if t.st [a4h] then b.Ey 12
 else if t.st [[116,114]] then b.Ey 13
 else if t.st sTd then b.Ey 14
 else if t.k=2 then b.Ey 7
 else if t.k=3 then(b,zy)
 else b.UX
def block(t:DE):BS:=b.BT.C3 t
def NU(t:DE):BS:=
 let a:=b.BT
 (if AS B2 (DZ a.AJ) then a.Gk else a).C3 t
def W0(t:DE):BS:={b.block t with skip:=z8,fs:=zy}
def Wy(t:DE):BS:=
 if b.Fx≠0/\¬b.Pv then b else
 let a:=b.BT
 if b.Pv then a.C3 t else{a.C3 t with Fx:=a.Lh 1}
end
def HX(a:List Aj)(i:Item):Bool:=AS a i||(Dc i&& !(AS RE i))
def Fk(b:BS)(a:List Aj):BS:=match b.AJ.reverse.find? (HX a) with
 |zw i=>if AS a i then b.EO i.name i.name else b
 |yq=>b
def db(b:BS)(t:DE):BS:=(({b with fs:=zy}:BS).Fk (if t.name=[108,105] then[[108,105]] else jY)).block t
def SY(b:BS)(t:DE):BS:=
 let a:=if b.has [a2G] then b.EO a2G [] else b
 {a.A4.C3 t with fs:=zy}
def fmt(b:BS)(t:DE):BS:=b.A4.HH t.name t.Al
def JH(l:List B9)(n:Int):List B9:=if Eo n l<0 then l else Bl l (Eo n l).toNat
def Ov(b:BS):BS:=
 let k:=D2 [97] b.AX
 if k<0 then b else
 let n:=(b.AX.getD k.toNat y9).node
 let a:=b.CJ [97]
 {a with AX:=JH a.AX n,AJ:=Cn n a.AJ}
section
variable(b:BS)(t:DE)
def dd:BS:=b.Ov.fmt t
def de:BS:=
 let a:=b.A4
 (if a.has [a2P] then(a.CJ a2P).A4 else a).HH t.name t.Al
def B6:BS:=
 let a:=b.A4.C3 t
 {a with AX:=a.AX++[y9],fs:=zy}
def Q5:BS:=
 let c:=if(b.a.nd b.Cd).Cm then b else b.BT
 {c.C3 t with fs:=zy,mode:=9}
end
def Ja(l:List Bb):Bool:=match l.find? λa=>decide (a.name=a3Y) with
 |zw a=>decide (Eb a.value=a3I)
 |yq=>zy
section
variable(b:BS)(t:DE)
def empty:BS:=
 if t.name=[104,114] then{b.BT.I2 t with fs:=zy}
 else if t.name∈SV then{b.I2 t with fs:=b.fs}
 else if t.name=a27 then{b.A4.I2 t with fs:=b.fs&&Ja t.Al}
 else{b.A4.I2 {t with name:=if t.name=a2W then a3N else t.name} with fs:=zy}
def raw:BS:=
 if t.name=a2T then{b.block t with sw:=5}
 else if t.name=a2U then{b.DM t.name t.Al 2 with skip:=z8,fs:=zy}
 else if t.name=a3E then({b.BT.A4 with fs:=zy}:BS).DM t.name t.Al 3
 else if t.name=a3h then({b with fs:=zy}:BS).DM t.name t.Al 3
 else b.DM t.name t.Al 3
def SZ:BS:=
 {b.A4.C3 t with fs:=zy,mode:=if b.mode=9\/b.mode=11\/b.mode=13\/b.mode=14\/b.mode=15 then 17 else 16}
def S0:BS:=(if AS [a3a] (DZ b.AJ) then b.Gk else b).A4.C3 t
def gI:BS:=
 (if b.has [a3t] then{b with AJ:=Dg (CN (if t.name=[114,112]\/t.name=[114,116] then a4a else[])) Cl b.AJ} else b).C3 t
def NV:BS:=
 let a:=b.A4.D5 t.name t.Al (if t.name=a4l then 3 else 2)
 if t.sc then a.Gk else a
def Kx:BS:=
 if b.I9=zy\/b.fs=zy then b else
 {({b with a:=b.a.cut (Dl b.AJ 1).node,AJ:=b.AJ.take 1}:BS).C3 t with mode:=20}
def opens:BS×Bool:=
 if t.name∈Eu then b.CM t
 else if t.name∈UU then(b.block t,zy)
 else if t.name∈B2 then(b.NU t,zy)
 else if t.name∈SQ then(b.W0 t,zy)
 else if t.name∈Pq then(b.fmt t,zy)
 else if t.name∈Lk then(b.B6 t,zy)
 else if t.name∈UW then(b.empty t,zy)
 else if t.name∈SR then(b,zy)
 else if t.name∈qw then(b.raw t,zy)
 else if t.name∈gF then(b.gI t,zy)
 else if t.name∈Zo then(b.NV t,zy)
 else if t.name∈gG then(b.db t,zy)
 else if t.name∈Ww then(b.S0 t,zy)
 else if t.name∈Ll then(b.MK t,zy)
 else if t.name=a2D then(b.Kx t,zy)
 else if t.name=a2R then(b.Wy t,zy)
 else if t.name=a2G then(b.SY t,zy)
 else if t.name=[97] then(b.dd t,zy)
 else if t.name=a2P then(b.de t,zy)
 else if t.name=a2K then(b.Q5 t,zy)
 else if t.name=a25 then(b.SZ t,zy)
 else(b.A4.C3 t,zy)
def TI:BS×Bool:=if b.has [a2B] then({b with mode:=19},decide (t.name=a2y)) else(b,zy)
def J6:BS:=if b.has [t.name] then b.EO t.name [] else b
end
section
variable(b:BS)
def Ow:BS:=if b.has B2 then{b with AJ:=Dg Cl (AS B2) (Dg (CN []) Cl b.AJ)} else b
def Qc(t:DE):BS:=if b.has [t.name] then{b.EO t.name [] with AX:=Et b.AX} else b
def GA(a:Int)(q:Item->Bool):Bool:=HG q (GZ a) b.AJ.reverse
def M2(t:DE):BS:=
 let s:=b.GA (if t.name=[112] then 3 else if t.name=[108,105] then 2 else 1) (AS [t.name])
 if s then b.EO t.name t.name
 else if t.name=[112] then(b.C3 (Lj [112])).EO t.name t.name else b
def WA(t:DE):BS:=
 if b.Pv then b.J6 t
 else if b.Fx≠0/\b.GA 1 (Bz b.Fx) then{b with Fx:=0,AJ:=Cn b.Fx (Dg (CN []) Cl b.AJ)}
 else{b with Fx:=0}
def Lm(t:DE):BS×Bool:=
 if t.name=AE then b.CM t
 else if t.name∈Ll then b.TI t
 else if t.name∈Q4 then(b.J6 t,zy)
 else if t.name∈Wx then(b.CJ t.name,zy)
 else if t.name∈B2 then(b.Ow,zy)
 else if t.name∈Lk then(b.Qc t,zy)
 else if t.name∈SU then(b.M2 t,zy)
 else if t.name=a2R then(b.WA t,zy)
 else if t.name=[98,114] then(b.empty (Lj [98,114]),zy)
 else(b.CZ t.name,zy)
def L5(t:DE):BS×Bool:=
 if¬t.ok then(b,zy)
 else if t.k=5 then(b.Rp t,zy)
 else if t.k=4 then(b.DL t.data 0,zy)
 else if t.k=6 then(if 0<b.tm.length then b.EP t else({b with stop:=z8},zy))
 else if t.k=2 then b.opens t
 else if t.k=3 then b.Lm t
 else(b,zy)
end
def apply(a:DE->Bool)(b:BS)(t:DE):BS×Bool:=
 if¬t.ok then(b,zy)
 else if b.mode=1 then b.JG a t
 else if b.mode=2 then b.FG t
 else if b.mode=3 then b.FH t
 else if b.mode=4 then b.CM t
 else if b.mode=5 then b.FI t
 else if b.mode=6 then b.IQ t
 else if b.mode=7 then b.L5 t
 else if b.mode=8 then b.L4 t
 else if b.mode=18 then b.EP t
 else(b,zy)
end BS
structure RN where
 x:FE
 kv:Ad
 av:Ad
 okk:Em x.Bj kv
 oka:AK x.Al av
def RN.row(p:RN):List Ad:=[I p.x.kind,I p.x.Ha,p.kv,I p.x.Cd,I p.x.Bk,yu p.x.name,p.av,yu p.x.data,yu p.x.Ho,yu p.x.sys,zu p.x.Cm,I p.x.cont,I p.x.E3]
def RN.z:RN:=⟨{},.slnil,.slnil,.inr ⟨rfl,rfl⟩,.inr ⟨rfl,rfl⟩⟩
def aBx(l:List RN):∀r∈l.map RN.row,r.length=13:=LU (f:=RN.row) (λ_=>rfl) l
structure RA(h:Ak)(a n i:Nat)(ps:List RN)(A:Ar):Prop where
 e:A.n=ps.map RN.x
 il:A.i.length=A.n.length
 ha:h[a]?=zw (z1 [.CK n 0 (ps.length+1) 13,.CK i 0 (ps.length+1) 1])
 hn:h[n]?=zw (z1 ((RN.z::ps).map RN.row).flatten)
 hi:h[i]?=zw (z1 ((0::A.i).map (Ad.int y8)))
 d:a≠n/\a≠i/\n≠i
def Ky(a n i:Nat):Nat->Prop:=λj=>j=a\/j=n\/j=i
def RW(h:Ak)(G:Nat->Prop)(a:Nat)(A:Ar):Prop:=∃n i b,RA h a n i b A/\G=Ky a n i
def pR(a:List RN)(x:Int):RN:=(RN.z::a).getD x.toNat RN.z
def nR(x:Int):Nat:=x.toNat*13
section
variable{h h':Ak}{a n i:Nat}{c:List RN}{A:Ar}{x:Int}{G:Nat->Prop}
def RA.Dt(w:RA h a n i c A)(b:∀j,Ky a n i j->h'[j]?=h[j]?):RA h' a n i c A:=
 ⟨w.e,w.il,b a (.inl rfl)▸w.ha,b n (.inr (.inl rfl))▸w.hn,b i (.inr (.inr rfl))▸w.hi,w.d⟩
def RA.lt(w:RA h a n i c A){j:Nat}(b:Ky a n i j):j<h.length:=by
 obtain rfl|rfl|rfl:=b
 .exact(Aq.1 w.ha).1
 .exact(Aq.1 w.hn).1
 .exact(Aq.1 w.hi).1
def RW.Dt(w:RW h G a A)(b:∀j,G j->h'[j]?=h[j]?):RW h' G a A:=by obtain⟨n,i,c,w,rfl⟩:=w;exact⟨n,i,c,w.Dt b,rfl⟩
def RW.lt(w:RW h G a A){j:Nat}(b:G j):j<h.length:=by obtain⟨n,i,c,w,rfl⟩:=w;exact w.lt b
section
variable(w:RA h a n i c A)
def RA.len:A.n.length=c.length:=by rw[w.e,Ao]
def RA.nodes:A8 h none (Pt a 0)=zw (.CK n 0 (c.length+1) 13):=by rw[A8,w.ha];rfl
def RA.fL:A8 h none (Pt a 1)=zw (.CK i 0 (c.length+1) 1):=by rw[A8,w.ha];rfl
section
variable(a:A.has x)
def RA.at:x.toNat<c.length+1/\x.toNat=x:=by let h1:=a.1;let b:=a.2;rw[w.len] at b;omega
def RA.pn:(RN.z::c)[x.toNat]?=zw (pR c x)/\(pR c x).x=A.nd x:=by
 let f:=(w.at a).1;let h2:=a.1;let b:x.toNat<(RN.z::c).length:=zv f
 refine⟨by rw[pR];rw[A3,Ap b];rfl,?_⟩;unfold Ar.nd pR;rw[Ae a,w.e];obtain⟨k,d⟩:∃k,x.toNat=k+1:=⟨x.toNat-1,Ab⟩;rw[d,j7,EY,A3,A3,Cp];have:k<c.length:=Ab;rw[Ap this];rfl
def RA.RM{k:Nat}(b:k<13):A8 h none (Pt n (nR x+k))=(pR c x).row[k]?:=by rw[nR];simp[A8,w.hn,Fg];exact Ni (aBx _) b (by rw[Cp,(w.pn a).1];rfl)
def RA.addr:AB (.EM 13) [.CK n 0 (c.length+1) 13,I x]=zw (Pt n (nR x)):=by let⟨d,b⟩:=w.at a;have:=FN (k:= y8) (id:=n) (z:=13) d;rwa [b] at this
def RA.f0:A8 h none (Pt n (nR x))=zw (I (A.nd x).kind):=by have:=w.RM a (k:=0) AR;rw[BE] at this;rw[this,<-(w.pn a).2];rfl
def RA.f1:A8 h none (Pt n (nR x+1))=zw (I (A.nd x).Ha):=by rw[w.RM a AR,<-(w.pn a).2];rfl
def RA.f2:A8 h none (Pt n (nR x+2))=zw (pR c x).kv:=by rw[w.RM a AR];rfl
def RA.f3:A8 h none (Pt n (nR x+3))=zw (I (A.nd x).Cd):=by rw[w.RM a AR,<-(w.pn a).2];rfl
def RA.f4:A8 h none (Pt n (nR x+4))=zw (I (A.nd x).Bk):=by rw[w.RM a AR,<-(w.pn a).2];rfl
def RA.f5:A8 h none (Pt n (nR x+5))=zw (yu (A.nd x).name):=by rw[w.RM a AR,<-(w.pn a).2];rfl
def RA.f6:A8 h none (Pt n (nR x+6))=zw (pR c x).av:=by rw[w.RM a AR];rfl
def RA.f7:A8 h none (Pt n (nR x+7))=zw (yu (A.nd x).data):=by rw[w.RM a AR,<-(w.pn a).2];rfl
def RA.f11:A8 h none (Pt n (nR x+11))=zw (I (A.nd x).cont):=by rw[w.RM a AR,<-(w.pn a).2];rfl
def RA.f12:A8 h none (Pt n (nR x+12))=zw (I (A.nd x).E3):=by rw[w.RM a AR,<-(w.pn a).2];rfl
def RA.OL:Em (A.nd x).Bj (pR c x).kv:=(w.pn a).2▸(pR c x).okk
def RA.ħ:AK (A.nd x).Al (pR c x).av:=(w.pn a).2▸(pR c x).oka
end
def RA.wr(f:A.has x){k:Nat}(y:k<13){v:Ad}(s:v.cells=[v]){p:RN}(t:p.row=(pR c x).row.set k v):
  ∃m,Cv h 1 (Pt n (nR x+k)) v=zw m/\RA m a n i (c.set (x.toNat-1) p) (A.set x p.x)/\Dx h (Ky a n i) m (Ky a n i)/\m.length=h.length:=by
 let⟨l,b⟩:=w.at f;let h1:=f.1;let q:=(w.pn f).1;let r:x.toNat<(RN.z::c).length:=zv l
 rw[Ap r,BN] at q;let e:=P1 (AH:=(RN.z::c).map RN.row) (i:=x.toNat) (v:=v) (aBx _) (zv l) y;rw[C4,q,<-t,<-Fa] at e;let B:(RN.z::c).set x.toNat p=RN.z::c.set (x.toNat-1) p:=by obtain⟨j,o⟩:∃j,x.toNat=j+1:=⟨x.toNat-1,Ab⟩;rw[o,aWu,EY]
 rw[B] at e;let C:=w.lt (.inr (.inl rfl));refine⟨h.set n (z1 ((RN.z::c.set (x.toNat-1) p).map RN.row).flatten),?_,⟨?_,?_,?_,AT C,?_,w.d⟩,⟨Bw▸Af _,λj _ u=>Av λe=>u (.inr (.inl e.symm)),λj o=> .inl o⟩,Bw⟩;.unfold nR;simp only[Cv,w.hn,s,A5,OE];rw[Ae (by rw[GX (aBx _),Ao];have:=Er 13 (r);omega),e]
 .unfold Ar.set;simp only;rw[Ae f,w.e,Fa]
 .unfold Ar.set;simp only;rw[Ae f,Bw];exact w.il
 .rw[Av (D8 w.d.1),Bw];exact w.ha
 .rw[Av w.d.2.2];exact w.hi
def IS:BF cx 275 [Pt a 0,I x] h (zu (decide (A.has x))) h:=by
 let hl:=w.len;rw[Ac,aEI];by_cases b:0<x
 .let e:decide (A.has x)=decide (x<(c.length+1)):=by rw[DG];rw[Ar.has];omega
  simp[e,T6,b,w.nodes,show AB (.len zy) [.CK n 0 (c.length+1) 13]=zw (I (c.length+1)) from rfl]
 .let e:decide (A.has x)=zy:=by rw[Ag];rw[Ar.has];omega
  simp[e,b]
def aPk:BF cx 401 [Pt a 0,I x] h (I (A.nd x).Ha) h:=by
 rw[Ac,aFk];by_cases b:A.has x;.simp only[abS,IS w,Ah b,w.nodes,w.addr b,w.f1 b]
 .rw[HO b];simp[IS w,Ag b]
def aBy(hb:(A.nd x).Bj.length<=1000000000):∃v,BF cx 206 [Pt a 0,I x] h v h/\Em (A.nd x).Bj v:=by
 let hm:=hK;by_cases c:A.has x;.let⟨u,e,d⟩:=AY.Gf (b:=8) (w.OL c) Ab;exact⟨u,by simp[xw,IS w,Ah c,w.nodes,w.addr c,w.f2 c,e],d⟩
 .exact⟨.slnil,by simp[xw,IS w,Ag c],HO c▸.inr ⟨rfl,rfl⟩⟩
def aPl(b:A.has x):BF cx 408 [Pt a 0,I x] h (I (A.up x)) h:=by
 rw[Ac,aFm];by_cases c:(A.nd x).Ha=0
 .let e:A.up x=(A.nd x).E3:=by rw[Ar.up];rw[Aa (zv c)]
  simp[w.nodes,w.addr b,w.f1 b,c,w.f12 b,e,BR,CH]
 .let e:A.up x=(A.nd x).Ha:=by rw[Ar.up];rw[Ae (zv c)]
  simp[w.nodes,w.addr b,w.f1 b,c,e,BR]
end
end
def aPm{A:Ar}{e x:Int}(ok:Fj A e)(b:A.has x)(a:A.up x≠0):A.has (A.up x):=by
 rw[Ar.up] at a⊢;split at a;next h=>exact Ae h▸(ok.Ha x b h).1
 next h=>exact Aa h▸(ok.E3 x b a).1
def ā{A:Ar}{t x:Int}(a:x≠t):Reach A t x↔A.up x≠0/\Reach A t (A.up x):=by
 constructor
 .intro h;cases h with
  |refl=>cases a rfl
  |step c b=>exact⟨c,b⟩
 .exact λh=> .step h.1 h.2
section
variable{h U:Ak}{a n i:Nat}{T:List RN}{A:Ar}{x:Int}{G:Nat->Prop}
open Classical in
def aPn{up e:Int}(w:RA h a n i T A)(ok:Fj A e)(hu:A.has up)(hx:A.has x):BF cx 370 [Pt a 0,I up,I x] h (zu (decide (Reach A up x))) h:=by
 let⟨r,hr⟩:=ok.pA;let d:up≠0:=by have:=hu.1;omega
 simp only[Ac,aFc,abS,IS w,IS w,Ah hu,Ah hx];refine Bm (λc:Int=>[I c,ff]) (λc h1=>(c=0\/A.has c)/\(Reach A up x↔c≠0/\Reach A up c)/\h1=h) (λc=>if c=0 then 0 else r c+1) x rfl ⟨.inr hx,⟨λh=>⟨by have:=hx.1;omega,h⟩,λh=>h.2⟩,rfl⟩ ?_;rintro c h1 ⟨hc,he,rfl⟩;by_cases h0:c=0;.let e:=Ag (λf=>(he.1 f).1 h0);simp[h0,BR,e]
 .let hc:=hc.resolve_left h0;by_cases b:c=up;.let e:=Ah (he.2 ⟨h0,b▸.refl⟩);simp[h0,BR,Aw b,e]
  .simp only[abS,h0,BR,b,aPl w hc];refine xx (A.up c) rfl ⟨?_,?_,rfl⟩ ?_
   .by_cases hz:A.up c=0;.exact .inl hz
    .exact .inr (aPm ok hc hz)
   .rw[he,ā b];exact⟨λh=>h.2,λh=>⟨h0,h⟩⟩
   .by_cases hz:A.up c=0;.rw[Ae hz,Aa h0];omega
    .rw[Aa hz,Aa h0];have:=hr c hc hz;omega
def aPo{v:Ad}{l:List Int}(m:Em l v)(hb:l.length<=1000000000)x(h:Ak):∃u,BF cx 371 [v,I x] h u h/\Em (l.filter λk=>decide (k≠x)) u:=by
 let hm:=hK;let w:Ev cx 371 [v,I x] h λr U=>Em (l.filter λk=>decide (k≠x)) r/\U=h:=by
  rw[Ev];rw[aFd];refine Bm (λs:Ad×Nat=>[s.1,I s.2]) (λs n=>s.2<=l.length/\Em ((l.take s.2).filter λk=>decide (k≠x)) s.1/\n=h) (λs=>l.length-s.2) (.slnil,0) rfl ⟨AZ _,.inr ⟨rfl,rfl⟩,rfl⟩ ?_;rintro⟨u,k⟩ n ⟨q,f,rfl⟩;simp only at q f;let i:=AY.CQ m;obtain e|EC:=AQ k l.length
  .let c:=AY.BL (k:= y8) m e;rw[BM] at c;let t:AB (.Df 1) [I l[k]]=zw (.sl 1 [BM l[k]]):=rfl;let Iq:((l.take k).filter λk=>decide (k≠x)).length<=l.length:=BC (Zp _ _) (by rw[Az];omega);let d:=wu (b:=8) (a:=l[k]) f Ab;simp only[abS,i,(Ab:k<(l.length:Int)),c,t,d,BB k,BR];refine⟨λj=>?_,λj=>?_⟩
   .refine xx (_,k+1) rfl ⟨e,?_,rfl⟩ DO;rw[AG e,FY];have:[l[k]].filter (λk=>decide (k≠x))=[l[k]]:=by simp[j]
    rw[this];exact .mk
   .refine xx (u,k+1) rfl ⟨e,?_,rfl⟩ DO;rw[AG e,FY];let j:l[k]=x:=zv j
    have:[l[k]].filter (λk=>decide (k≠x))=[]:=by simp[j]
    rwa[this,Br]
  .rw[AL EC] at f;simp only[abS,i,(Ab:¬k<(l.length:Int))];exact⟨_,rfl,f⟩
 obtain⟨r,U,p,f,rfl⟩:=w.ret;exact⟨r,p,f⟩
def aHM(w:RA h a n i T A)(t:A.has x)(J:∀y,(A.nd y).Bj.length<=1000000000){e:Int}(ok:Fj A e):∃U L,BF cx 272 [Pt a 0,I x] h (I 0) U/\RA U a n i L (A.cut x)/\Dx h (Ky a n i) U (Ky a n i):=by
 by_cases C:(A.nd x).Ha=0;.exact⟨h,T,by simp[ya,IS w,Ah t,w.nodes,w.addr t,w.f1 t,C,BR],by rw[Ar.cut];simp only;rwa[Ae C],.refl⟩
 .let⟨z,_⟩:=ok.Ha x t C;obtain⟨q,F⟩:∃q,q=(A.nd x).Ha:=⟨_,rfl⟩;rw[<-F] at C z;let⟨u,m,G⟩:=aPo (w.OL z) (J q) x h;let⟨h1,l,B,f,l1⟩:=w.wr z (k:=2) AR (AY.cells G) (p:=⟨{A.nd q with Bj:=(A.nd q).Bj.filter λk=>decide (k≠x)},u,(pR T q).av,G,w.ħ z⟩) (by simp only[RN.row];rw[(w.pn z).2];rfl);let D:(A.set q {A.nd q with Bj:=(A.nd q).Bj.filter λk=>decide (k≠x)}).has x:=JE.2 t;let H:=(B.pn D).2;let⟨K,j,g,d,s⟩:=B.wr D (k:=1) AR (v:=I 0) rfl (p:=⟨{(A.set q {A.nd q with Bj:=(A.nd q).Bj.filter λk=>decide (k≠x)}).nd x with Ha:=0},(pR _ x).kv,(pR _ x).av,B.OL D,B.ħ D⟩) (by simp only[RN.row];rw[H];rfl);let o:A.cut x=(A.set q {A.nd q with Bj:=(A.nd q).Bj.filter λk=>decide (k≠x)}).set x {(A.set q {A.nd q with Bj:=(A.nd q).Bj.filter λk=>decide (k≠x)}).nd x with Ha:=0}:=by rw[Ar.cut];simp only;rw[<-F,Aa C]
  exact⟨K,_,by let r:=F.symm;let b:=B.nodes;let c:=B.addr D;rw[Bw] at b c;simp[ya,IS w,Ah t,w.nodes,w.addr t,w.f1 t,r,C,BR,w.addr z,w.f2 z,m,BK,l,b,j],o▸g,f.trans d⟩
open Classical in
def aPp{p b e:Int}(w:RA h a n i T A)(ok:Fj A e):∃q:Int,BF cx 271 [Pt a 0,I p,I x,I b] h (I q) h/\(q=0↔aAj A p x b):=by
 by_cases hp:A.has p;rotate_left;.exact⟨3,by simp[L0,IS w,Ag hp,A9],λh=>absurd h AR,λf=>absurd f.hp hp⟩
 by_cases hx:A.has x;rotate_left;.exact⟨3,by simp[L0,IS w,Ah hp,IS w,Ag hx,A9],λh=>absurd h AR,λf=>absurd f.hn hx⟩
 by_cases hb:b≠0/\¬A.has b;.exact⟨3,by simp[L0,IS w,Ah hp,IS w,Ah hx,BR,hb.1,IS w,Ag hb.2,A9],λh=>absurd h AR,λf=>absurd (f.hb hb.1).1 hb.2⟩
 let m:b≠0->A.has b:=λh0=>by
  by_cases h1:A.has b;.exact h1
  .cases hb ⟨h0,h1⟩
 let first:∀(Q:HN) (k:Dz->List Ad->IT),W cx (k .normal [ff]) Q h->W cx (.Qp 200001 (.call 275 [Pt a 0,I p] λv0=> .op (.un .not) [v0] λs=> .Hs s (x4 .normal [tt]) (.call 275 [Pt a 0,I x] λv2=> .op (.un .not) [v2] λv3=> .Hs v3 (x4 .normal [tt]) (.op (yg .neq) [I b,I 0] λv4=> .Hs v4 (.call 275 [Pt a 0,I b] λv5=> .op (.un .not) [v5] λr=> x4 .normal [r]) (x4 .normal [ff])))) k) Q h:=by
  intro Q k hk;by_cases h0:b=0;.simp only[abS,IS w,Ah hp,IS w,Ah hx,BR,h0,A9];exact hk
  .simp only[abS,IS w,Ah hp,IS w,Ah hx,BR,h0,IS w,Ah (m h0),A9];exact hk
 by_cases kp:Mt (A.nd p).kind;rotate_left
 .refine⟨4,?_,λh=>absurd h AR,λf=>absurd f.kp kp⟩;rw[Mt] at kp;let v:¬(A.nd p).kind=1:=λe=>kp (.inl e);let u:¬(A.nd p).kind=2:=λe=>kp (.inr (.inl e));let t:¬(A.nd p).kind=4:=λe=>kp (.inr (.inr e));rw[Ac,L0];refine first _ _ ?_
  simp[w.nodes,w.addr hp,w.f0 hp,w.addr hx,w.f0 hx,A9,BR,v,u,t]
 by_cases d:(A.nd x).kind=1
 .refine⟨4,?_,λh=>absurd h AR,λf=>absurd d f.kn.1⟩;rw[Ac,L0];refine first _ _ ?_
  obtain kp|kp|kp:=kp<;>simp[w.nodes,w.addr hp,w.f0 hp,w.addr hx,w.f0 hx,A9,BR,Jq,kp,d]
 by_cases c:(A.nd x).kind=2
 .refine⟨4,?_,λh=>absurd h AR,λf=>absurd c f.kn.2⟩;rw[Ac,L0];refine first _ _ ?_
  obtain kp|kp|kp:=kp<;>simp[w.nodes,w.addr hp,w.f0 hp,w.addr hx,w.f0 hx,A9,BR,Jq,kp,c]
 let j:=aPn w ok hx hp;by_cases re:Reach A x p
 .refine⟨4,?_,λh=>absurd h AR,λf=>absurd re f.re⟩;rw[Ah re] at j;rw[Ac,L0];refine first _ _ ?_
  obtain kp|kp|kp:=kp<;>simp[w.nodes,w.addr hp,w.f0 hp,w.addr hx,w.f0 hx,A9,BR,Jq,kp,d,c,j]
 rw[Ag re] at j;by_cases g:b=0
 .refine⟨0,?_,λ_=>⟨hp,hx,λh=>absurd g h,kp,⟨d,c⟩,re⟩,λ_=>rfl⟩;rw[Ac,L0];refine first _ _ ?_
  obtain kp|kp|kp:=kp<;>simp[w.nodes,w.addr hp,w.f0 hp,w.addr hx,w.f0 hx,A9,BR,Jq,kp,d,c,j,g]
 by_cases l:b=x
 .refine⟨5,?_,λh=>absurd h AR,λf=>absurd l (f.hb g).2.1⟩;rw[Ac,L0];refine first _ _ ?_
  let PQ:¬x=0:=l▸g
  obtain kp|kp|kp:=kp<;>simp[w.nodes,w.addr hp,w.f0 hp,w.addr hx,w.f0 hx,A9,BR,Jq,kp,d,c,j,l,PQ]
 let Td:=m g;by_cases o:(A.nd b).Ha=p
 .refine⟨0,?_,λ_=>⟨hp,hx,λh=>⟨Td,l,o⟩,kp,⟨d,c⟩,re⟩,λ_=>rfl⟩;rw[Ac,L0];refine first _ _ ?_
  obtain kp|kp|kp:=kp<;>simp[w.nodes,w.addr hp,w.f0 hp,w.addr hx,w.f0 hx,A9,BR,Jq,kp,d,c,j,g,l,w.addr Td,w.f1 Td,Aw o]
 .refine⟨5,?_,λh=>absurd h AR,λf=>absurd (f.hb g).2.2 o⟩;rw[Ac,L0];refine first _ _ ?_
  obtain kp|kp|kp:=kp<;>simp[w.nodes,w.addr hp,w.f0 hp,w.addr hx,w.f0 hx,A9,BR,Jq,kp,d,c,j,g,l,w.addr Td,w.f1 Td,o]
def TQ(b x:Int)(l:List Int):List Int:=l.flatMap λk=>if k=b then[x,k] else[k]
def XZ{b x:Int}:∀{l:List Int},b∉l->TQ b x l=l
 |[],_=>rfl
 |y::l,h=>by let a:b∉l:=λe=>h (by simp[e]);have:=XZ (x:=x) a;rw[TQ] at this⊢;grind
def df{b x:Int}:∀{l:List Int},l.Nodup->b∈l->TQ b x l=l.takeWhile (λk=>decide (k≠b))++x::l.dropWhile (λk=>decide (k≠b))
 |[],_,h=>by cases h
 |y::l,a,h=>by
  rw[CA] at a;by_cases c:y=b;.subst c;have:=XZ (x:=x) a.1;rw[TQ] at this⊢;simp_all
  .let d:b∈l:=by obtain h|h:=A0.1 h;cases c h.symm;exact h
   have:=df (x:=x) a.2 d;rw[TQ] at this⊢;simp_all
def dg{b x:Int}{l:List Int}:(TQ b x l).length<=2*l.length:=by
 induction l with
 |nil=>simp[TQ]
 |cons y l a=>rw[TQ] at a⊢;grind
def Ă{b x y:Int}{l:List Int}:TQ b x (l++[y])=TQ b x l++if y=b then[x,y] else[y]:=by unfold TQ;rw[List.flatMap_append];simp
open Classical in
def aPq{p b e:Int}(w:RA h a n i T A)(ok:Fj A e)(hb:∀y,(A.nd y).Bj.length<=900000000):∃B U JM,BF cx 121 [Pt a 0,I p,I x,I b] h (I B) U/\RA U a n i JM (A.Gu p x b)/\Dx h (Ky a n i) U (Ky a n i):=by
 let⟨B,N,z⟩:=aPp (p:=p) (x:=x) (b:=b) w ok;by_cases hf:aAj A p x b;rotate_left;.let h0:¬B=0:=λh=>hf (z.1 h);exact⟨B,h,T,by simp[xj,N,BR,h0],by rwa[QX hf],.refl⟩
 have h0:=z.2 hf;subst h0;let⟨h1,Vf,r2,w1,J⟩:=aHM w hf.hn (λy=>BC (hb y) AR) ok;let j:((A.cut x).nd p).Bj.Nodup/\(b≠0->b∈((A.cut x).nd p).Bj)/\((A.cut x).nd p).Bj.length<=900000000/\0∉((A.cut x).nd p).Bj/\(A.cut x).has p/\(A.cut x).has x:=by
  let TE:=XD ok hf.hn hf.kn.2;let Ue:(A.cut x).has p:=MY.2 hf.hp;refine⟨(TE.Vd p Ue).wj,λh0=>?_,?_,λh0=>?_,Ue,MY.2 hf.hn⟩
  .let⟨b1,b2,b3⟩:=hf.hb h0;let aBa:((A.cut x).nd b).Ha=p:=by rw[UK ok hf.hn,Aa b2];split<;>exact b3
   have:=(TE.Ha b (MY.2 b1) (by rw[aBa];have:=hf.hp.1;omega)).2;rwa [aBa] at this
  .let h1:=hb p;let h2:=hb x;rw[UK ok hf.hn];split;.exact h2
   .split;.exact BC (Zp _ _) h1
    .exact h1
  .have:=(TE.OL p Ue 0 h0).1.1;omega
 obtain⟨j,C,P,hz,Ue,Rz⟩:=j;generalize D:A.cut x=c at*;let Jy:Ev cx 121 [Pt a 0,I p,I x,I b] h λr U=>r=I 0/\∃JM,RA U a n i JM (A.Gu p x b)/\Dx h (Ky a n i) U (Ky a n i):=by
  let hm:=hK;simp only[Ev,xj,abS,N,BR,r2];let iV:=w1.OL Ue;let lk:=AY.CQ iV;refine DD (i:=0) (λs:Ad×Nat=>[s.1,I s.2]) (λs h2=>s.2<=(c.nd p).Bj.length/\Em (TQ b x ((c.nd p).Bj.take s.2)) s.1/\h2=h1) (λs=>(c.nd p).Bj.length-s.2) (λs h2=>Em (TQ b x (c.nd p).Bj) s.1/\h2=h1) (.slnil,0) rfl ⟨AZ _,.inr ⟨rfl,rfl⟩,rfl⟩ ?_ ?_
  .rintro⟨u,k⟩ h2 ⟨hk,hu,rfl⟩;simp only at hk hu;obtain hlt|EC:=AQ k (c.nd p).Bj.length
   .let E:=AY.BL (k:= .i64) iV hlt;rw[BM] at E;let nM:=dg (b:=b) (x:=x) (l:=(c.nd p).Bj.take k);rw[Az] at nM;let m:AB (.Df 1) [I x]=zw (.sl 1 [BM x]):=rfl;let p_:AB (.Df 1) [I (c.nd p).Bj[k]]=zw (.sl 1 [BM (c.nd p).Bj[k]]):=rfl;let hs:=Ă (b:=b) (x:=x) (y:=(c.nd p).Bj[k]) (l:=(c.nd p).Bj.take k);rw[<-AG hlt] at hs;by_cases f:(c.nd p).Bj[k]=b;.let a1:=wu (b:=8) (a:=x) hu Ab;let Rx:Em (TQ b x ((c.nd p).Bj.take k)++[x]) (.sl 1 ((TQ b x ((c.nd p).Bj.take k)++[x]).map BM)):= .mk;let a2:=wu (b:=8) (a:=(c.nd p).Bj[k]) Rx (by rw[As,A5];omega);rw[Ae f,show[x,(c.nd p).Bj[k]]=[x]++[(c.nd p).Bj[k]] from rfl,<-AO] at hs;simp only[abS,w1.nodes,w1.addr Ue,w1.f2 Ue,lk,(Ab:k<((c.nd p).Bj.length:Int)),E,Aw f,m,a1,p_,a2,A9,BB k];exact .next (_,k+1) rfl ⟨hlt,hs▸.mk,rfl⟩ DO
    .let a2:=wu (b:=8) (a:=(c.nd p).Bj[k]) hu Ab;rw[Aa f] at hs;simp only[abS,w1.nodes,w1.addr Ue,w1.f2 Ue,lk,(Ab:k<((c.nd p).Bj.length:Int)),E,f,p_,a2,A9,BB k];exact .next (_,k+1) rfl ⟨hlt,hs▸.mk,rfl⟩ DO
   .rw[AL EC] at hu;simp[w1.nodes,w1.addr Ue,w1.f2 Ue,lk,(Ab:¬k<((c.nd p).Bj.length))];exact .HT (u,k) rfl ⟨hu,rfl⟩
  .rintro⟨u,k⟩ h2 ⟨hu,rfl⟩;simp only at hu;obtain⟨t,JK,hw⟩:∃t,Em (KD (c.nd p).Bj b x) t/\(b=0->AB (.append 1 8) [u,.sl 1 [BM x]]=zw t)/\(b≠0->t=u):=by
    let nM:=dg (b:=b) (x:=x) (l:=(c.nd p).Bj);by_cases h0:b=0;.let a1:=wu (b:=8) (a:=x) hu Ab;exact⟨_,by rw[XZ (h0▸hz)];rw[KD];exact Ae h0▸.mk,λ_=>a1,λh=>absurd h0 h⟩
    .exact⟨u,by rw[KD];rwa[Aa h0,<-df j (C h0)],λh=>absurd h h0,λ_=>rfl⟩
   let⟨S,M,q,H,_⟩:=w1.wr Ue (k:=2) AR (v:=t) (AY.cells JK) (p:=⟨{c.nd p with Bj:=KD (c.nd p).Bj b x},t,(pR Vf p).av,JK,w1.ħ Ue⟩) (by simp only[RN.row];rw[(w1.pn Ue).2];rfl);let d:(c.set p {c.nd p with Bj:=KD (c.nd p).Bj b x}).has x:=JE.2 Rz;let jW:=(q.pn d).2;let⟨R,L,K,F,_⟩:=q.wr d (k:=1) AR (v:= I p) rfl (p:=⟨{(c.set p {c.nd p with Bj:=KD (c.nd p).Bj b x}).nd x with Ha:=p},(pR _ x).kv,(pR _ x).av,q.OL d,q.ħ d⟩) (by simp only[RN.row];rw[jW];rfl);let O:A.Gu p x b=(c.set p {c.nd p with Bj:=KD (c.nd p).Bj b x}).set x {(c.set p {c.nd p with Bj:=KD (c.nd p).Bj b x}).nd x with Ha:=p}:=by rw[Ar.Gu];rw[Ae hf,D];rfl
   let g:=q.nodes;let o:=q.addr d;rw[Bw] at g o;let m:AB (.Df 1) [I x]=zw (.sl 1 [BM x]):=rfl;by_cases h0:b=0;.let a1:=hw.1 h0;simp only[abS,Aw h0,m,a1,A9,w1.nodes,w1.addr Ue,M,g,o,L];exact⟨_,rfl,rfl,_,O▸K,(J.trans H).trans F⟩
   .have Q:=hw.2 h0;subst Q;simp only[abS,h0,A9,w1.nodes,w1.addr Ue,M,g,o,L];exact⟨_,rfl,rfl,_,O▸K,(J.trans H).trans F⟩
 obtain⟨r,U,hr,rfl,JM,w',x'⟩:=Jy.ret;exact⟨0,U,JM,hr,w',x'⟩
def yw s:JY cx 201 [I s] (zu (decide (x7 s))):=by rw[Mh,aEk];by_cases c:0<=s<;>by_cases b:s<=7<;>simp[c,b,x7]
def dh(w:RA h a n i T A)(hl:A.len<=1000000000)(p:RN):∃U X Y,BF cx 158 [Pt a 0,.agg p.row] h (I (A.len+1)) U/\RA U a X Y (T++[p]) (A.add p.x)/\Dx h (Ky a n i) U (Ky a X Y):=by
 have hm:=hK;have hlen:=w.len;have mH:=w.il;have nM:T.length<=1000000000:=by unfold Ar.len at hl;omega
 let Q:=JZ (b:=168) (v:= .sl 13 [p.row]) (aBx _) AR w.hn .mk AF ES;let L:((RN.z::T).map RN.row).length=T.length+1:=AF;rw[L,A5] at Q;have m:(h.set n .CV++[y2 ((RN.z::T).map RN.row++[p.row]).flatten]).length=h.length+1:=AF;have l:(h.set n .CV++[y2 ((RN.z::T).map RN.row++[p.row]).flatten])[h.length]?=zw (z1 ((RN.z::(T++[p])).map RN.row).flatten):=by rw[Bu AF];simp
 let Zu:=w.lt (.inl rfl);let V:=w.lt (.inr (.inr rfl));have a1:(h.set n .CV++[y2 ((RN.z::T).map RN.row++[p.row]).flatten])[a]?=zw (z1 [.CK n 0 (T.length+1) 13,.CK i 0 (T.length+1) 1]):=by rw[An (by simpa using Zu),Av (D8 w.d.1)];exact w.ha
 have i1:(h.set n .CV++[y2 ((RN.z::T).map RN.row++[p.row]).flatten])[i]?=zw (z1 ((0::A.i).map (Ad.int y8))):=by rw[An (by simpa using V),Av w.d.2.2];exact w.hi
 have y:∀j,j<h.length->j≠n->(h.set n .CV++[y2 ((RN.z::T).map RN.row++[p.row]).flatten])[j]?=h[j]?:=λj N M=>by rw[An (zv N),Av (D8 M)]
 generalize h.set n .CV++[y2 ((RN.z::T).map RN.row++[p.row]).flatten]=O at*;let o:At O a 0 _:=⟨_,a1,rfl⟩;have r:=o.store (u:= .CK h.length 0 (T.length+1+1) 13) rfl;have a2:=IP (k:=0) (v:= .CK h.length 0 (T.length+1+1) 13) a1;have C:(put O a 0 (.CK h.length 0 (T.length+1+1) 13))[h.length]?=_:=(Cq Ab).trans l;have F:(put O a 0 (.CK h.length 0 (T.length+1+1) 13))[i]?=_:=(Cq (D8 w.d.2.1)).trans i1;have t:∀j,j<h.length->j≠n->j≠a->(put O a 0 (.CK h.length 0 (T.length+1+1) 13))[j]?=h[j]?:=λj N M P=>(Cq P).trans (y j N M);have g:(put O a 0 (.CK h.length 0 (T.length+1+1) 13)).length=h.length+1:=by rw[Kr,m]
 generalize put O a 0 (.CK h.length 0 (T.length+1+1) 13)=G at*;let E:A8 G none (Pt a 1)=zw (.CK i 0 (T.length+1) 1):=At.load ⟨_,a2,rfl⟩;let Z:=JZ (b:=8) (r2:=[BM 0]) (v:= .sl 1 [[I 0]]) (LU (f:=BM) (λ_=>rfl) _) AR (by rw[P6];exact F) (.inl rfl) AF ES;let K:((0::A.i).map BM).length=T.length+1:=ES;rw[K,A5,g] at Z;let R:a<G.length:=Ab;have a3:(G.set i .CV++[y2 ((0::A.i).map BM++[BM 0]).flatten])[a]?=_:=((An (zv R)).trans (Av (D8 w.d.2.1))).trans a2;have B:(G.set i .CV++[y2 ((0::A.i).map BM++[BM 0]).flatten])[h.length]?=_:=((An ES).trans (Av Ab)).trans C;have i3:(G.set i .CV++[y2 ((0::A.i).map BM++[BM 0]).flatten])[h.length+1]?=zw (z1 ((0::(A.i++[0])).map (Ad.int y8))):=by rw[Bu ES];simp only[Bw,g,Dy,HR];rw[<-P6];simp
 have s:∀j,j<h.length->j≠n->j≠a->j≠i->(G.set i .CV++[y2 ((0::A.i).map BM++[BM 0]).flatten])[j]?=h[j]?:=λj N M P hi=>((An ES).trans (Av (D8 hi))).trans (t j N M P)
 have J:(G.set i .CV++[DH.cells ((0::A.i).map BM++[BM 0]).flatten]).length=h.length+2:=ES;generalize G.set i .CV++[y2 ((0::A.i).map BM++[BM 0]).flatten]=c at*;let t3:At c a 1 (.CK i 0 (T.length+1) 1):=⟨_,a3,rfl⟩;let q:=t3.store (u:= .CK (h.length+1) 0 (T.length+1+1) 1) rfl;let a4:=IP (k:=1) (v:= .CK (h.length+1) 0 (T.length+1+1) 1) a3;let l4:A8 (put c a 1 (.CK (h.length+1) 0 (T.length+1+1) 1)) none (Pt a 0)=zw (.CK h.length 0 (T.length+1+1) 13):=At.load ⟨_,a4,rfl⟩;refine⟨put c a 1 (.CK (h.length+1) 0 (T.length+1+1) 1),h.length,h.length+1,?_,⟨?_,?_,?_,?_,?_,?_⟩,by rw[Kr];omega,λj N M=>?_,λj N=>?_⟩
 .let em:AB (.Df 13) [.agg p.row]=zw (.sl 13 [p.row]):=rfl;let p_:AB (.Df 1) [I 0]=zw (.sl 1 [[I 0]]):=rfl;let hd:=IK (n:=T.length+1+1) Ab Ab;let H:A.len+1=(T.length+1+1 -1:Nat):=by rw[Ar.len];omega
  let D:AB (.len zy) [.CK h.length 0 (T.length+1+1) 13]=zw (I (T.length+1+1:Nat)):=rfl;rw[RN.row] at em Q;rw[Ac,aEh,RN.row,H];simp only[abS,w.nodes,em,Q,r,E,p_,Z,q,l4,D,hd]
 .unfold Ar.add;simp only;rw[w.e,BJ];rfl
 .unfold Ar.add;simp[As,A5];omega
 .rw[a4,As];rfl
 .rw[Cq Ab];exact B
 .rw[Cq Ab];exact i3
 .exact⟨Ab,Ab,Ab⟩
 .let O:j≠a:=λe=>M (.inl e);let G:j≠n:=λe=>M (.inr (.inl e));let c:j≠i:=λe=>M (.inr (.inr e));rw[Cq O];exact s j N G O c
 .rcases N with rfl|rfl|rfl
  .exact .inl (.inl rfl)
  .exact .inr (Af _)
  .exact .inr (Gd _)
def aHN{v:Ad}{l:List Bb}(f:AK l v)(hb:l.length<=1000000000)(m:∀y∈l,x7 y.Bk)(h:Ak):BF cx 303 [v] h (zu z8) h:=by
 rw[Ac,aEX];refine Bm (λk:Nat=>[ff,I k]) (λk i=>k<=l.length/\i=h) (λk=>l.length-k) 0 rfl ⟨AZ _,rfl⟩ ?_;rintro k i ⟨hk,rfl⟩;let d:=AY.CQ f;obtain a|EC:=AQ k l.length
 .let b:=AY.BL (k:= y8) f a;rw[xi] at b;let c:∀{Q:HN} {h:Ak} {e:Ad->IT},W cx (.BG 201 [I l[k].Bk] e) Q h↔W cx (e (zu (decide (x7 l[k].Bk)))) Q h:=(yw _).BG rfl rfl;simp[d,(Ab:k<l.length),b,c,Ah (m _ (AV a)),BB k];exact xx (k+1) rfl ⟨a,rfl⟩ Ab
 .simp only[abS,d,(Ab:¬k<(l.length:Int))]
def aHO{v:Ad}{l:List Bb}(C:AK l v)(hb:l.length<=1000000000)(h:Ak):∃u,BF cx 304 [v] h u h/\AK (CL l) u:=by
 let hm:=hK;let w:=AY.CQ C;let L:Ev cx 304 [v] h λr U=>AK (CL l) r/\U=h:=by
  rw[Ev];rw[aEY];refine Bm (λs:Ad×Nat=>[s.1,I s.2]) (λs A=>s.2<=l.length/\AK (CL (l.take s.2)) s.1/\A=h) (λs=>l.length-s.2) (.slnil,0) rfl ⟨AZ _,.inr ⟨rfl,rfl⟩,rfl⟩ ?_;rintro⟨u,k⟩ A ⟨J,n,rfl⟩;simp only at J n;obtain t|EC:=AQ k l.length
  .let y:=AY.CQ n;let F:=Tq (l:=l.take k);rw[Az] at F;let e:=AY.BL (k:= y8) C t;rw[xi] at e;simp only[abS,w,(Ab:k<(l.length:Int))];refine DD (i:=2) (λj:Nat=>[zu (((CL (l.take k)).take j).any λz=>decide (D1 l[k]=D1 z)),I j]) (λj x=>j<=(CL (l.take k)).length/\x=A) (λj=>(CL (l.take k)).length-j) (λj x=>j=(CL (l.take k)).length/\x=A) 0 rfl ⟨AZ _,rfl⟩ ?_ ?_
   .rintro j x ⟨hj,rfl⟩;obtain c|q:=AQ j (CL (l.take k)).length
    .let o:=AY.BL (k:= y8) n c;rw[xi] at o;let B:((CL (l.take k)).take (j+1)).any (λz=>decide (D1 l[k]=D1 z))=(((CL (l.take k)).take j).any (λz=>decide (D1 l[k]=D1 z))||decide (D1 l[k]=D1 (CL (l.take k))[j])):=by rw[AG c,YW];simp
     by_cases g:(CL (l.take k))[j].Bk=l[k].Bk
     .by_cases p:(CL (l.take k))[j].name=l[k].name
      .let d:decide (D1 l[k]=D1 (CL (l.take k))[j])=z8:=by simp[D1,g,p]
       simp only[abS,y,(Ab:j<((CL (l.take k)).length:Int)),e,o,Aw g,Ah p,BB j];exact .next (j+1) (by rw[B,d,Bool.or_true]) ⟨c,rfl⟩ Ab
      .let d:decide (D1 l[k]=D1 (CL (l.take k))[j])=zy:=by simp[D1];exact λ_ h=>p h.symm
       simp only[abS,y,(Ab:j<((CL (l.take k)).length:Int)),e,o,Aw g,Ag p,BB j];exact .next (j+1) (by rw[B,d,Np]) ⟨c,rfl⟩ Ab
     .let d:decide (D1 l[k]=D1 (CL (l.take k))[j])=zy:=by simp[D1];exact λh=>absurd h.symm g
      simp only[abS,y,(Ab:j<((CL (l.take k)).length:Int)),e,o,g,BB j];exact .next (j+1) (by rw[B,d,Np]) ⟨c,rfl⟩ Ab
    .simp only[abS,y,(Ab:¬j<((CL (l.take k)).length:Int))];exact .HT j rfl ⟨Ab,rfl⟩
   .rintro j x ⟨rfl,rfl⟩;let m:CL (l.take (k+1))=if(CL (l.take k)).any (λz=>decide (D1 l[k]=D1 z)) then CL (l.take k) else CL (l.take k)++[l[k]]:=AG t▸TH
    let K:AB (.Df 3) [.agg [I l[k].Bk,yu l[k].name,yu l[k].value]]=zw (.sl 3 [[I l[k].Bk,yu l[k].name,yu l[k].value]]):=rfl;let E:=wu (b:=40) (a:=l[k]) n Ab;rw[xi] at E;rw[Bx];cases D:(CL (l.take k)).any (λz=>decide (D1 l[k]=D1 z))
    .rw[Aa (by rw[D];decide)] at m;simp only[abS,Nat.reduceLeDiff,e,K,E,BB k];exact xx (_,k+1) rfl ⟨t,m▸.mk,rfl⟩ DO
    .rw[Ae D] at m;simp[BB k];exact xx (u,k+1) rfl ⟨t,m▸n,rfl⟩ DO
  .rw[AL EC] at n;simp only[abS,w,(Ab:¬k<(l.length:Int))];exact⟨_,rfl,n⟩
 obtain⟨r,U,H,n,rfl⟩:=L.ret;exact⟨r,H,n⟩
end
section
variable{h U:Ak}{a n i:Nat}{T:List RN}{A:Ar}{x d:Int}{G:Nat->Prop}
section
variable(w:RA h a n i T A)
def di(b:A.has d)(c:(A.nd d).kind=1):BF cx 162 [Pt a 0,I d] h (I 0) h:=by simp[aEj,IS w,Ah b,w.nodes,w.addr b,w.f0 b,c,BR]
def aPv(p:A.len<=1000000000)(r:A.has d)(q:(A.nd d).kind=1)k(s:Aj):
  ∃U l m u,BF cx 120 [Pt a 0,I d,.agg [I k,I 0,.slnil,I 0,I 0,S [],.slnil,yu s,S [],S [],ff,I 0,I 0]] h (zm [I (A.len+1),I 0]) U/\RA U a l m u (A.add {kind:=k,Cd:=d,data:=s})/\Dx h (Ky a n i) U (Ky a l m):=by
 let⟨t,e,i1,b,o,c⟩:=dh w p ⟨{kind:=k,Cd:=d,data:=s},.slnil,.slnil,.inr ⟨rfl,rfl⟩,.inr ⟨rfl,rfl⟩⟩;exact⟨t,e,i1,_,by rw[RN.row] at b;simp[xh,di w r q,b,BR],o,c⟩
def aPw(m:A.len<=1000000000)(q:Bool):
  ∃U j k p,BF cx 54 [Pt a 0,zu q] h (I (A.len+1)) U/\RA U a j k p (A.add {kind:=1,Cd:=A.len+1,Cm:=q})/\Dx h (Ky a n i) U (Ky a j k):=by
 let⟨o,f,i1,b,l,c⟩:=dh w m ⟨{kind:=1,Cd:=A.len+1,Cm:=q},.slnil,.slnil,.inr ⟨rfl,rfl⟩,.inr ⟨rfl,rfl⟩⟩;refine⟨o,f,i1,_,?_,l,c⟩;let hn:=w.len;let e:(T.length+1)=A.len+1:=by rw[Ar.len];omega
 let g:AB (.len zy) [.CK n 0 (T.length+1) 13]=zw (I (A.len+1)):=by rw[<-e];rfl
 rw[RN.row] at b;simp[aJF,AP,w.nodes,g,b]
def RA.yx(a:A.has x):AB (.EM 1) [.CK i 0 (T.length+1) 1,I x]=zw (Pt i x.toNat):=by let⟨c,b⟩:=w.at a;have:=FN (k:= y8) (id:=i) (z:=1) c;rwa [b,GP] at this
def RA.iat(a:A.has x):At h i x.toNat (I (A.inr x)):=by let⟨h1,h2⟩:=w.at a;let b:=a.1;let hl:=w.len;let mH:=w.il;refine⟨_,w.hi,?_⟩;obtain⟨k,c⟩:∃k,x.toNat=k+1:=⟨x.toNat-1,Ab⟩;rw[c,Bn,aIc,Cp];rw[Ar.inr];rw[Ae a,c,EY,A3,Ap Ab];rfl
def RA.aPy(c:A.has x)v:RA (put h i x.toNat (I v)) a n i T (A.Ks x v)/\Dx h (Ky a n i) (put h i x.toNat (I v)) (Ky a n i):=by
 let⟨h1,h2⟩:=w.at c;let b:=c.1;refine⟨⟨w.e,?_,(Cq w.d.2.1).trans w.ha,(Cq w.d.2.2).trans w.hn,?_,w.d⟩,Kr▸Af _,λj _ f=>Cq λe=>f (.inr (.inr e)),λj m=> .inl m⟩;.unfold Ar.Ks;simp only;rw[Ae c,Bw];exact w.il
 .rw[IP w.hi];obtain⟨k,l⟩:∃k,x.toNat=k+1:=⟨x.toNat-1,Ab⟩;rw[Ar.Ks];simp only;rw[Ae c,l,EY,Bn,aWu,Bn,Fa]
def aPz(H:A.len<=1000000000)(z:A.has d):∃U E G L,BF cx 306 [Pt a 0,I d] h (I (A.Gv d)) U/\RA U a E G L (A.DC d)/\Dx h (Ky a n i) U (Ky a E G):=by
 by_cases v:A.inr d=0;rotate_left
 .refine⟨h,n,i,T,?_,by rw[Ar.DC];rwa[Ae v],.refl⟩;let e:A.Gv d=A.inr d:=by rw[Ar.Gv];rw[Ae v]
  simp[yb,e,w.fL,w.yx z,(w.iat z).load,v]
 .let⟨h1,q,i1,J,p,x,l⟩:=aPw w H zy;let y:(A.add {kind:=1,Cd:=A.len+1,Cm:=zy}).has d:=Eh.2 (.inl z);let K:(A.add {kind:=1,Cd:=A.len+1,Cm:=zy}).has (A.len+1):=Eh.2 (.inr rfl);let⟨b,k⟩:=x.aPy y (A.len+1);let B:=K;let g:=y;let⟨c,j⟩:=b.aPy B (A.len+1);let e:A.Gv d=A.len+1:=by rw[Ar.Gv];rw[Aa (zv v)]
  let s:A.DC d=(((A.add {kind:=1,Cd:=A.len+1,Cm:=zy}).Ks d (A.len+1)).Ks (A.len+1) (A.len+1)):=by rw[Ar.DC];rw[Aa (zv v)]
  refine⟨_,q,i1,J,?_,s▸c,(l.trans k).trans j⟩;let r:(((A.add {kind:=1,Cd:=A.len+1,Cm:=zy}).Ks d (A.len+1)).Ks (A.len+1) (A.len+1)).inr d=A.len+1:=by
   let f:=x.il;rw[SB b.il,SB f];split;.rfl
   .rw[Ae ⟨rfl,y⟩]
  let o:=(x.iat y).store (u:= I (A.len+1)) rfl;let m:=(b.iat B).store (u:= I (A.len+1)) rfl;let F:=(c.iat g).load;rw[r] at F;simp[yb,e,w.fL,w.yx z,(w.iat z).load,v,p,x.fL,x.yx y,o,b.fL,b.yx B,m,c.fL,F]
end
def aPA{v:Ad}{l:List Bb}(w:RA h a n i T A)(d:A.has x)(s:(A.nd x).kind=4)(f:AK l v)(m:l.length<=1000000000)(r:∀y∈l,x7 y.Bk):
  ∃U z,BF cx 220 [Pt a 0,I x,v] h (I 0) U/\RA U a n i z (A.KV x l)/\Dx h (Ky a n i) U (Ky a n i):=by
 let e:=aHN f m r h;let⟨u,q,j⟩:=aHO f m h;let⟨t,c,o,b,_⟩:=w.wr d (k:=6) AR (AY.cells j) (p:=⟨{A.nd x with Al:=CL l},(pR T x).kv,u,w.OL d,j⟩) (by simp only[RN.row];rw[(w.pn d).2];rfl);exact⟨t,_,by simp[aEy,IS w,Ah d,w.nodes,w.addr d,w.f0 d,s,BR,e,q,BK,c],o,b⟩
def aPB(p:RN)(h:Ak):BF cx 305 [.agg p.row] h (zu (decide (iR p.x))) h:=by simp[aEZ,RN.row,iR];refine⟨λb=>⟨λa=>?_,λa=>?_⟩,λb=>?_⟩<;>simp[*]
def RA.aHP(w:RA h a n i T A)(c:A.has x):A8 h (zw 13) (Pt n (nR x))=zw (.agg (pR T x).row):=by
 let⟨d,h2⟩:=w.at c;let b:x.toNat<(RN.z::T).length:=zv d
 have:=mD (aBx _) w.hn (i:=x.toNat) (zv d);rw[C4] at this;let e:=(w.pn c).1;rw[Ap b,BN] at e;rwa[e] at this
def aHQ{v:Ad}{l:List Bb}{sp:Int}{nm:Aj}(w:RA h a n i T A)(hl:A.len+3<=1000000000)(hd:A.has d)(hk:(A.nd d).kind=1)(hs:x7 sp)(hv:AK l v)(hb:l.length<=1000000000)(ŏ:∀y∈l,x7 y.Bk):
  ∃U n' i' JM,BF cx 159 [Pt a 0,I d,I sp,yu nm,v] h (zm [I (A.len+1),I 0]) U/\RA U a n' i' JM (A.elem d sp nm l)/\Dx h (Ky a n i) U (Ky a n' i'):=by
 let z:=aHN hv hb ŏ h;let⟨u,r2,hu⟩:=aHO hv hb h;let g:=AY.cells hu;let⟨h1,M,i1,m,Z,s⟩:=dh w Ab ⟨{kind:=4,Cd:=d,Bk:=sp,name:=nm,Al:=CL l},.slnil,u,.inr ⟨rfl,rfl⟩,hu⟩;let B:∀{Q:HN} {h:Ak} {kk:Ad->IT},W cx (.BG 201 [I sp] kk) Q h↔W cx (kk (zu (decide (x7 sp)))) Q h:=(yw _).BG rfl rfl;have OT:(A.add {kind:=4,Cd:=d,Bk:=sp,name:=nm,Al:=CL l}).has (A.len+1):=Eh.2 (.inr rfl);have pB:(A.add {kind:=4,Cd:=d,Bk:=sp,name:=nm,Al:=CL l}).has d:=Eh.2 (.inl hd);have ZE:(A.add {kind:=4,Cd:=d,Bk:=sp,name:=nm,Al:=CL l}).len=A.len+1:=by unfold Ar.add Ar.len;simp
 let f:=aPB (pR (T++[⟨{kind:=4,Cd:=d,Bk:=sp,name:=nm,Al:=CL l},.slnil,u,.inr ⟨rfl,rfl⟩,hu⟩]) (A.len+1)) h1;rw[(Z.pn OT).2,J1,Ae rfl] at f;let ld:=Z.aHP OT;rw[RN.row] at m;rw[Ar.elem];simp only
 by_cases j:iR {kind:=4,Cd:=d,Bk:=sp,name:=nm,Al:=CL l};rotate_left;.rw[Aa j];rw[Ag j] at f;exact⟨h1,M,i1,_,by simp only[Ac,xt,abS,zx,AP,di w hd hk,BR,B,Ah hs,z,r2,g,m,Z.nodes,Z.addr OT,ld,f],Z,s⟩
 .rw[Ae j];rw[Ah j] at f;generalize q:A.add {kind:=4,Cd:=d,Bk:=sp,name:=nm,Al:=CL l}=b at*;generalize T++[(⟨{kind:=4,Cd:=d,Bk:=sp,name:=nm,Al:=CL l},.slnil,u,.inr ⟨rfl,rfl⟩,hu⟩:RN)]=Vf at*;let⟨h2,O,P,pk,K,H,E⟩:=aPz Z Ab pB;let Zb:(b.DC d).len<=A.len+2:=by
   rw[Ar.DC];split;.omega
   .rw[VV,VV];have:(b.add {kind:=1,Cd:=b.len+1}).len=b.len+1:=by unfold Ar.add Ar.len;simp
    omega
  let Va:(b.DC d).has (A.len+1):=by
   rw[Ar.DC];split;.exact OT
   .rw[SA,SA];exact Eh.2 (.inl OT)
  let⟨R,L,i3,t,e,D⟩:=dh H Ab ⟨{kind:=2,E3:=A.len+1,Cd:=b.Gv d},.slnil,.slnil,.inr ⟨rfl,rfl⟩,.inr ⟨rfl,rfl⟩⟩;let c:((b.DC d).add {kind:=2,E3:=A.len+1,Cd:=b.Gv d}).has (A.len+1):=Eh.2 (.inl Va);let aKM:((b.DC d).add {kind:=2,E3:=A.len+1,Cd:=b.Gv d}).nd (A.len+1)={kind:=4,Cd:=d,Bk:=sp,name:=nm,Al:=CL l}:=by
   let E7:=Va.2;rw[J1,Aa (by unfold Ar.len at E7⊢;omega)];let h0:b.nd (A.len+1)={kind:=4,Cd:=d,Bk:=sp,name:=nm,Al:=CL l}:=by rw[<-q,J1,Ae rfl]
   rw[Ar.DC];split;.exact h0
   .rw[VW,VW,J1,Aa Ab];exact h0
  let jW:=(e.pn c).2;rw[aKM] at jW;let⟨N,J,F,C,_⟩:=e.wr c (k:=11) AR (v:= I ((b.DC d).len+1)) rfl (p:=⟨{kind:=4,Cd:=d,Bk:=sp,name:=nm,Al:=CL l,cont:=(b.DC d).len+1},(pR _ (A.len+1)).kv,(pR _ (A.len+1)).av,by have:=e.OL c;rwa[aKM] at this,by have:=e.ħ c;rwa[aKM] at this⟩) (by simp only[RN.row];rw[jW];rfl);exact⟨N,L,i3,_,by rw[RN.row] at t;let o:=e.nodes;let r:=e.addr c;simp only[Ac,xt,abS,zx,AP,di w hd hk,BR,B,Ah hs,z,r2,g,m,Z.nodes,Z.addr OT,ld,f,K,t,o,r,J],F,((s.trans E).trans D).trans C⟩
end
structure RX(h:Ak)(bi a:Nat)(o c t:Ad)(G:Nat->Prop)(b:BS):Prop where
 hb:h[bi]?=zw (z1 (J4 a b o c t))
 o:B7 b.AJ o
 t:Em b.tm t
 w:RW h G a b.a
 nb:¬G bi
section
variable{h h':Ak}{z a:Nat}{o c t:Ad}{G G' F:Nat->Prop}{b:BS}{x:Int}{m:Nat}
def RX.lt(w:RX h z a o c t G b):z<h.length:=(Aq.1 w.hb).1
def RX.Dt{h':Ak}(w:RX h z a o c t G b)(d:∀i,i=z\/G i->h'[i]?=h[i]?):RX h' z a o c t G b:=
 ⟨d z (.inl rfl)▸w.hb,w.o,w.t,w.w.Dt λi e=>d i (.inr e),w.nb⟩
def RX.If(w:RX h z a o c t G b){u:Ak}:RX (h++u) z a o c t G b:=w.Dt λi d=>An (by obtain rfl|d:=d;exact w.lt;exact w.w.lt d)
section
variable(w:RX h z a o c t G b)
def RX.ld k:A8 h none (Pt z k)=(J4 a b o c t)[k]?:=by simp[A8,w.hb,Fg]
def RX.l0:A8 h none (Pt z 0)=zw (Pt a 0):=w.ld 0
def RX.l1:A8 h none (Pt z 1)=zw (I b.Cd):=w.ld 1
def RX.l4:A8 h none (Pt z 4)=zw (I b.mode):=w.ld 4
def RX.l7:A8 h none (Pt z 7)=zw (I b.head):=w.ld 7
def RX.l9:A8 h none (Pt z 9)=zw (zu b.NR):=w.ld 9
def RX.l15:A8 h none (Pt z 15)=zw (zu b.FW):=w.ld 15
def RX.l3:A8 h none (Pt z 3)=zw c:=w.ld 3
def RX.l6:A8 h none (Pt z 6)=zw t:=w.ld 6
def RX.vA:At h z 3 c:=⟨_,w.hb,rfl⟩
end
def RX.yn{A':Ar}(w:RX h z a o c t G b)(e:RW h' G' a A')(x:Dx h G h' G'):RX h' z a o c t G' {b with a:=A'}/\Dx h (BD z G) h' (BD z G'):=
 ⟨⟨x.old z w.lt w.nb▸w.hb,w.o,w.t,e,λf=>by obtain h|h:=x.BD z f;exact w.nb h;have:=w.lt;omega⟩,x.aHB⟩
def RX.De(w:RX h z a o c t G b){u:Ak}:Dx h (BD z G) (h++u) (BD z G):= .If
def RX.put{k:Nat}{v f j d:Ad}{b':BS}(w:RX h z a o c t G b)(e:(J4 a b o c t).set k v=J4 a b' f j d)(p:b'.a=b.a)(m:B7 b'.AJ f)(l:Em b'.tm d):RX (x3 h z k v) z a f j d G b':=
 ⟨IL w.hb▸e▸AT w.lt,m,l,p▸w.w.Dt λi n=>Cq λe=>w.nb (e▸n),w.nb⟩
def RX.IB{u:Ad}{l:List Item}(w:RX h z a o c t G b)(d:B7 l u):RX (x3 h z 2 u) z a u c t G {b with AJ:=l}:=w.put rfl rfl d w.t
def RX.KJ{u:Ad}{l:List B9}(w:RX h z a o c t G b):RX (x3 h z 3 u) z a o u t G {b with AX:=l}:=w.put rfl rfl w.o w.t
def RX.st{k:Nat}{v v0:Ad}(w:RX h z a o c t G b)(e:(J4 a b o c t)[k]?=zw v0)(d:v.cells=[v]):Cv h 1 (Pt z k) v=zw (x3 h z k v):=At.store ⟨_,w.hb,e⟩ d
def RX.aFH(w:RX h z a o c t G b):A8 h (zw 4) (Pt z 10)=zw (.agg b.ctx.row):=by rw[A8,w.hb];rfl
def RX.br(w:RX h z a o c t G b)v:RX (x3 h z 4 (I v)) z a o c t G {b with mode:=v}:=w.put rfl rfl w.o w.t
def RX.fQ{u:Ad}{l:List Int}(w:RX h z a o c t G b)(d:Em l u):RX (x3 h z 6 u) z a o c u G {b with tm:=l}:=w.put rfl rfl w.o d
def RX.step{A':Ar}{R:Ak->Prop}(w:RX h z a o c t G b)(d:∀n i p,RA h a n i p b.a->∃k l m q,R k/\RA k a l m q A'/\Dx h (Ky a n i) k (Ky a l m)):
  ∃k s,R k/\RX k z a o c t s {b with a:=A'}/\Dx h (BD z G) k (BD z s):=by
 let⟨n,i,p,g,e⟩:=w.w;let⟨k,l,m,q,r,u,x⟩:=d n i p g;let⟨j,f⟩:=w.yn ⟨l,m,q,u,rfl⟩ (e▸x);exact⟨k,_,r,j,f⟩
section
variable(w:RX h z a o c t G b)
def Ox x:BF cx 203 [Pt z 0,I x] h (I (b.a.nd x).kind) h:=by
 let⟨n,i,ps,d,e⟩:=w.w;rw[Ac,aEm];by_cases c:b.a.has x;.simp only[abS,w.l0,IS d,Ah c,d.nodes,d.addr c,d.f0 c]
 .rw[HO c];simp[w.l0,IS d,Ag c]
def yy x:BF cx 208 [Pt z 0,I x] h (I (if b.a.has x then(b.a.nd x).Cd else b.Cd)) h:=by
 let⟨n,i,ps,d,e⟩:=w.w;rw[Ac,aEq];by_cases c:b.a.has x;.rw[Ae c];simp[w.l0,IS d,Ah c,d.nodes,d.addr c,d.f3 c]
 .rw[Aa c];simp[w.l0,IS d,Ag c,w.l1]
def aHS x(c:Aj)(q:c.length<9223372036854775806)(r:(b.a.nd x).name.length<9223372036854775807):BF cx 226 [Pt z 0,I x,yu c] h (zu (decide ((b.a.nd x).kind=4/\(b.a.nd x).Bk=1)&&Hj c (b.a.nd x).name)) h:=by
 let⟨n,i,ps,d,e⟩:=w.w;rw[Ac,aEE];by_cases j:(b.a.nd x).kind=4
 .let f:b.a.has x:=by
   by_cases o:b.a.has x;.exact o
   .rw[HO o] at j;simp at j
  let p:∀{Q:HN} {h:Ak} {l:Ad->IT},W cx (.BG 131 [yu c,yu (b.a.nd x).name] l) Q h↔W cx (l (zu (Hj c (b.a.nd x).name))) Q h:=(aNJ c _ q r).BG rfl rfl;by_cases m:(b.a.nd x).Bk=1;.simp only[abS,Ox w x,Aw j,w.l0,d.nodes,d.addr f,d.f4 f,Aw m,d.f5 f,p,Kf]
  .simp only[abS,Ox w x,Aw j,w.l0,d.nodes,d.addr f,d.f4 f,m,Kf]
 .simp only[abS,Ox w x,j,Kf]
def RX.gJ(ok:BA b)(s:BW b m)(p x q):∃d f j,BF cx 121 [Pt a 0,I p,I x,I q] h (I d) f/\RX f z a o c t j {b with a:=b.a.Gu p x q}/\Dx h (BD z G) f (BD z j):=by
 let u:∀y,(b.a.nd y).Bj.length<=900000000:=λy=>BC (fN ok.ok y) (by have:=s.n;omega);let⟨f,j,⟨d,r⟩,l,k⟩:=w.step (R:=λf=>∃d:Int,BF cx 121 [Pt a 0,I p,I x,I q] h (I d) f) λn i ps e=>let⟨d,f,v,r,l,k⟩:=aPq e ok.ok u;⟨f,n,i,v,⟨d,r⟩,l,k⟩
 exact⟨d,f,j,r,l,k⟩
def RX.self{A':Ar}(e:A'=b.a):RX h z a o c t G {b with a:=A'}:=by subst e;exact w
end
def yz(w:RX h z a o c t G b)(ok:BA b)(N:BW b m)(p x u):∃C E,BF cx 160 [Pt z 0,I p,I x,I u] h (zm []) C/\RX C z a o c t E {b with a:=b.a.E8 x p u}/\Dx h (BD z G) C (BD z E):=by
 let⟨s,J,l,g,K,f⟩:=w.gJ ok N p x u;by_cases F:(b.a.nd p).kind=1;rotate_left
 .let e:b.a.E8 x p u=b.a.Gu p x u:=by rw[Ar.E8];rw[Aa λh=>F h.1]
  exact⟨J,l,by simp[qJ,Ox w p,F,w.l0,g],e▸K,f⟩
 by_cases H:(b.a.nd x).kind=4;rotate_left
 .let e:b.a.E8 x p u=b.a.Gu p x u:=by rw[Ar.E8];rw[Aa λh=>H h.2.1]
  exact⟨J,l,by simp[qJ,Ox w p,Aw F,Ox w x,H,w.l0,g],e▸K,f⟩
 let U:(b.a.nd p).Bj.length<=1000000000:=BC (fN ok.ok p) (by have:=N.n;omega);obtain⟨kv,R,M⟩:∃v,BF cx 206 [Pt a 0,I p] h v h/\Em (b.a.nd p).Bj v:=let⟨n,i,ps,q,_⟩:=w.w;aBy q U
 let V:Ev cx 160 [Pt z 0,I p,I x,I u] h λr C=>r= zm []/\∃E,RX C z a o c t E {b with a:=b.a.E8 x p u}/\Dx h (BD z G) C (BD z E):=by
  rw[Ev];let D:=AY.CQ M;simp only[qJ,abS,Ox w p,Aw F,Ox w x,Aw H,w.l0,R];refine Bm (λk:Nat=>[I k]) (λk J=>k<=(b.a.nd p).Bj.length/\(∀y∈(b.a.nd p).Bj.take k,¬(b.a.nd y).kind=4)/\J=h) (λk=>(b.a.nd p).Bj.length-k) 0 rfl ⟨AZ _,λy A=>by simp at A,rfl⟩ ?_;rintro k h2 ⟨hk,L,rfl⟩;obtain B|EC:=AQ k (b.a.nd p).Bj.length
  .let j:=AY.BL (k:= y8) M B;rw[BM] at j;by_cases d:(b.a.nd (b.a.nd p).Bj[k]).kind=4
   .let e:b.a.E8 x p u=b.a:=by rw[Ar.E8];rw[Ae ⟨F,H,_,AV B,d⟩]
    simp only[abS,D,(Ab:k<((b.a.nd p).Bj.length:Int)),j,Ox w _,Aw d];exact⟨_,rfl,rfl,G,w.self e,.refl⟩
   .simp only[abS,D,(Ab:k<((b.a.nd p).Bj.length:Int)),j,Ox w _,d,BB k];refine xx (k+1) rfl ⟨B,λy A=>?_,rfl⟩ Ab;rw[AG B] at A;obtain A|A:=AA.1 A
    .exact L y A
    .rw[Ax] at A;rwa[A]
  .rw[AL EC] at L;let e:b.a.E8 x p u=b.a.Gu p x u:=by rw[Ar.E8];rw[Aa λh=>let⟨_,_,y,A,d⟩:=h;L y A d]
   simp only[abS,D,(Ab:¬k<((b.a.nd p).Bj.length:Int)),w.l0,g];exact⟨_,rfl,rfl,l,e▸K,f⟩
 obtain⟨r,C,T,rfl,E,Q,P⟩:=V.ret;exact⟨C,E,T,Q,P⟩
def aPC{v:Ad}{l:List Int}(i:Em l v)(hb:l.length<=1000000000)x(h:Ak):BF cx 207 [v,I x] h (I (Ck (λy=>decide (x=y)) 0 l)) h:=by
 rw[Ac,aEp];let c:=AY.CQ i;refine Bm (λk:Nat=>[I 0,I k]) (λk j=>k<=l.length/\Ck (λy=>decide (x=y)) 0 l=Ck (λy=>decide (x=y)) k (l.drop k)/\j=h) (λk=>l.length-k) 0 rfl ⟨AZ _,rfl,rfl⟩ ?_;rintro k j ⟨hk,b,rfl⟩;obtain a|m:=AQ k l.length
 .let d:=AY.BL (k:= y8) i a;rw[BM] at d;rw[AI a,Ck] at b;simp[c,(Ab:k<l.length),d,BB k];refine⟨λf=>?_,λf=>?_⟩;.rw[b,Ae (by simp[f])]
  .rw[Aa (by simpa using λe=>f e.symm)] at b;exact xx (k+1) rfl ⟨a,b,rfl⟩ Ab
 .rw[AU m,Ck] at b;simp[c,(Ab:¬k<l.length),b]
section
variable(w:RX h z a o c t G b)
def aBz x:BF cx 401 [Pt a 0,I x] h (I (b.a.nd x).Ha) h:=let⟨n,i,ps,d,_⟩:=w.w;aPk d
def aBA(a:BW b m):BF cx 215 [Pt z 0] h (.agg (DZ b.AJ).row) h:=by let ho:=a.AJ;let c:A8 h none (Pt z 2)=zw o:=w.ld 2;simp only[Ac,xz,By,Fh,c,aNU w.o Ab]
def aPD(x:BW b m):BF cx 339 [Pt z 0] h (zm [I b.Mi.1,I b.Mi.2]) h:=by
 let hl:=x.AJ;let t:A8 h none (Pt z 2)=zw o:=w.ld 2;have f:=aAW (h:=h) w.o Ab Gw;have s:=aAW (h:=h) w.o Ab AE;have B:=QP (q:=AS [Gw]) (l:=b.AJ);have A:=QP (q:=AS [AE]) (l:=b.AJ);let c:∀k:Nat,k<b.AJ.length->AB (.EM 4) [o,I k]=zw (.CO [I (Dl b.AJ k).node,I (Dl b.AJ k).Bk,yu (Dl b.AJ k).name,zu (Dl b.AJ k).OZ]):=λk v=>by have:=AY.BL (k:= .i64) w.o v;rw[Gg v,this];rfl
 rw[BS.Mi];simp only
 generalize A7 (AS [Gw]) b.AJ=i at f B⊢;generalize A7 (AS [AE]) b.AJ=d at s A⊢;rw[Ac,aE1];by_cases p:i<d;.obtain⟨k,rfl⟩:∃k:Nat,d=k:=⟨d.toNat,Ab⟩;simp[Ae p,t,s,BK,f,Of,p,A9,c k Ab,Kf]
 .rw[Aa p];by_cases u:i<0;.rw[Ae u];by_cases r:0<=d<;>simp only[abS,Fh,s,BK,f,r,p,A9,Kf,u,t,aJ5 (h:=h) w.o 0]
  .obtain⟨k,rfl⟩:∃k:Nat,i=k:=⟨i.toNat,Ab⟩;rw[Aa u];by_cases g:(b.a.nd (Dl b.AJ k).node).Ha=0
   .rw[Aa (zv g)];by_cases j:k=0
    .let e:max ((k:Int)-1) 0=k:=by omega
     by_cases r:0<=d<;>simp only[abS,Fh,s,BK,f,r,p,A9,Kf,(Ab:¬(k:Int)<0),t,c k Ab,w.l0,aBz w _,g,BR,Aw (Ab:(k:Int)=0),e]
    .let y:=IK (n:=k) Ab Ab;let e:max ((k:Int)-1) 0=(k-1:Nat):=Ab;by_cases r:0<=d<;>simp only[abS,Fh,s,BK,f,r,p,A9,Kf,(Ab:¬(k:Int)<0),t,c k Ab,w.l0,aBz w _,g,BR,(Ab:¬(k:Int)=0),y,c (k-1) Ab,e]
   .rw[Ae g];by_cases r:0<=d<;>simp only[abS,Fh,s,BK,f,r,p,A9,Kf,u,t,c k Ab,w.l0,aBz w _,g,BR]
end
end
def aBB{s:Aj}:Hj a3d s=decide (s∈Jz):=EJ Bi Bi
def aF2{s:Aj}:Hj a2z s=decide (s∈[AE]):=EJ Bi Bi
def mL{A:Ar}{y:Int}{a:List Aj}{q:Bool}(b:q=decide ((A.nd y).name∈a)):(decide ((A.nd y).kind=4/\(A.nd y).Bk=1)&&q)=decide (W9 a A y):=by subst b;rw[<-Bool.decide_and];rw[DG];rw[W9];exact⟨λh=>⟨h.1.1,h.1.2,h.2⟩,λh=>⟨⟨h.1,h.2.1⟩,h.2.2⟩⟩
def Nl{A:Ar}(ok:Fj A 0)y:(A.nd y).cont≠0↔W9 [AE] A y:=by
 by_cases a:A.has y
 .constructor;.intro h;have:=(ok.Vd y a).VX h;exact⟨this.1,this.2.1,by rw[this.2.2];simp⟩
  .intro h;exact ok.Pv y a (by have:=a.1;omega) ⟨h.1,h.2.1,zv h.2.2⟩
 .rw[HO a];constructor;.intro h;simp at h
  .intro h;have:=h.1;rw[HO a] at this;simp at this
section
variable{h h':Ak}{r a:Nat}{o c t:Ad}{G G' F:Nat->Prop}{b:BS}{x:Int}{m:Nat}
section
variable(w:RX h r a o c t G b)(d:∀x,(b.a.nd x).name.length<=1000)(x:Int)
def aPE:BF cx 226 [Pt r 0,I x,S a3d] h (zu (decide (W9 Jz b.a x))) h:=by have:=aHS w x a3d AR (by have:=d x;omega);rwa [mL aBB] at this
def aHT:BF cx 226 [Pt r 0,I x,S a2z] h (zu (decide (W9 [AE] b.a x))) h:=by have:=aHS w x a2z AR (by have:=d x;omega);rwa [mL aF2] at this
end
def y_(w:RX h r a o c t G b)(ok:BA b)(L:BW b m)(F:∀x,(b.a.nd x).name.length<=1000)x:BF cx 202 [Pt r 0,I x] h (zm [I (b.place x).1,I (b.place x).2]) h:=by
 let B:A8 h none (Pt r 2)=zw o:=w.ld 2;let lo:=AY.CQ w.o;let p:=aBA w L;let J:=aPD w L;let⟨n,i,ps,f,_⟩:=w.w;rw[Ac,aEl];by_cases H:x=0/\b.AJ=[]
 .let e:b.place x=(b.Cd,0):=by rw[BS.place];rw[Ae H]
  let q:AB (.len zy) [o]=zw (I 0):=by rw[lo,H.2];rfl
  simp[e,Aw H.1,B,q,w.l1,A9]
 obtain⟨v,u⟩:∃v,v=if x=0 then(DZ b.AJ).node else x:=⟨_,rfl⟩
 obtain⟨E,C⟩:∃E:Int×Int,E=if b.FW=z8/\W9 Jz b.a v then b.Mi else(v,0):=⟨_,rfl⟩
 let e:b.place x=if(b.a.nd E.1).cont≠0 then((b.a.nd E.1).cont,0) else E:=by rw[BS.place];rw[Aa H];simp only;rw[<-u,<-C]
 let k:=aPE w F v;let d:=aHT w F E.1;let y:=w.l15;let D:x=0->¬(b.AJ.length:Int)=0:=λM h1=>H ⟨M,NJ.1 Ab⟩;rw[e];cases l:b.FW
 .rw[l] at y;rw[Aa (by rw[l];intro h;cases AR h.1)] at C;subst C;simp only at d⊢;by_cases g:W9 [AE] b.a v
  .let z:=(Nl ok.ok v).2 g;let j:b.a.has v:=by
    by_cases A:b.a.has v;.exact A
    .have:=g.1;rw[HO A] at this;simp at this
   rw[Ah g] at d;rw[Ae z];by_cases s:x=0;.rw[Ae s] at u;subst u;simp only[abS,Fh,Aw s,B,lo,D s,p,A9,y,d,w.l0,f.nodes,f.addr j,f.f11 j]
   .rw[Aa s] at u;subst u;simp[s,A9,y,d,w.l0,f.nodes,f.addr j,f.f11 j]
  .let z:=λh=>g ((Nl ok.ok v).1 h);rw[Ag g] at d;rw[Aa z];by_cases s:x=0;.rw[Ae s] at u;subst u;simp only[abS,Fh,Aw s,B,lo,D s,p,A9,y,d]
   .rw[Aa s] at u;subst u;simp[s,A9,y,d]
 .rw[l] at y;by_cases K:W9 Jz b.a v
  .rw[Ae ⟨l,K⟩] at C;subst C;rw[Ah K] at k;by_cases g:W9 [AE] b.a b.Mi.1
   .let z:=(Nl ok.ok b.Mi.1).2 g;let j:b.a.has b.Mi.1:=by
     by_cases A:b.a.has b.Mi.1;.exact A
     .have:=g.1;rw[HO A] at this;simp at this
    rw[Ah g] at d;rw[Ae z];by_cases s:x=0;.rw[Ae s] at u;subst u;simp only[abS,Fh,Aw s,B,lo,D s,p,A9,y,k,J,d,w.l0,f.nodes,f.addr j,f.f11 j]
    .rw[Aa s] at u;subst u;simp[s,A9,y,k,J,d,w.l0,f.nodes,f.addr j,f.f11 j]
   .let z:=λh=>g ((Nl ok.ok b.Mi.1).1 h);rw[Ag g] at d;rw[Aa z];by_cases s:x=0;.rw[Ae s] at u;subst u;simp only[abS,Fh,Aw s,B,lo,D s,p,A9,y,k,J,d]
    .rw[Aa s] at u;subst u;simp[s,A9,y,k,J,d]
  .rw[Aa (λh=>K h.2)] at C;subst C;rw[Ag K] at k;simp only at d⊢;by_cases g:W9 [AE] b.a v
   .let z:=(Nl ok.ok v).2 g;let j:b.a.has v:=by
     by_cases A:b.a.has v;.exact A
     .have:=g.1;rw[HO A] at this;simp at this
    rw[Ah g] at d;rw[Ae z];by_cases s:x=0;.rw[Ae s] at u;subst u;simp only[abS,Fh,Aw s,B,lo,D s,p,A9,y,k,d,w.l0,f.nodes,f.addr j,f.f11 j]
    .rw[Aa s] at u;subst u;simp[s,A9,y,k,d,w.l0,f.nodes,f.addr j,f.f11 j]
   .let z:=λh=>g ((Nl ok.ok v).1 h);rw[Ag g] at d;rw[Aa z];by_cases s:x=0;.rw[Ae s] at u;subst u;simp only[abS,Fh,Aw s,B,lo,D s,p,A9,y,k,d]
    .rw[Aa s] at u;subst u;simp only[abS,s,A9,y,k,d]
end
def Nm(A:Ar):Prop:=∀x,(A.nd x).name.length<=1000
section
variable{A A':Ar}{b:BS}{q:cr}{m j:Nat}{nm:Aj}{l:List Bb}{sp p x:Int}
section
variable(h:Nm A)
def Nm.le(c:Le A A')(b:A'.n.length=A.n.length):Nm A':=λy=>by
 by_cases a:A.has y;.rw[c.name y a];exact h y
 .have:¬A'.has y:=by rw[Ar.has] at a⊢;rwa[b]
  rw[HO this];simp
def Nm.add{y:FE}(a:y.name.length<=1000):Nm (A.add y):=λx=>by
 rw[J1];split;.exact a
 .exact h x
def Nm.set{y:FE}{k:Int}(a:y.name.length<=1000):Nm (A.set k y):=λx=>by
 rw[Lg];split;.exact a
 .exact h x
def Nm.Ks{k v:Int}:Nm (A.Ks k v):=λx=>by rw[VW];exact h x
def Nm.Gu{bf:Int}:Nm (A.Gu p x bf):=h.le O0 (Ku).n
def Nm.E8{a:Int}:Nm (A.E8 x p a):=h.le JF (LB).n
def Nm.DC{d:Int}:Nm (A.DC d):=by
 rw[Ar.DC];split;.exact h
 .exact(h.add AF).Ks.Ks
def Nm.elem{d:Int}(a:nm.length<=1000):Nm (A.elem d sp nm l):=by
 let b:Nm (A.add {kind:=4,Cd:=d,Bk:=sp,name:=nm,Al:=CL l}):=h.add a;rw[Ar.elem];simp only
 split;.exact(b.DC.add AF).set a
 .exact b
end
section
variable(h:Nm b.a)(hn:nm.length<=1000)
def Nm.mk:Nm (b.EL nm l sp p).a:=by
 rw[BS.EL];split;.exact h.elem (by rwa[eU])
 .exact h
def Nm.Mf:Nm (b.D5 nm l sp).a:=by
 rw[BS.D5];split;.exact(h.mk hn).E8
 .exact h
end
def Nm.KH(h:Nm A){s:Aj}{a:Int}:Nm (BS.KH A s p a):=by
 rw[BS.KH];split
 .split
  .split;.exact h.set (h _)
   .exact(h.add AF).E8
  .exact(h.add AF).E8
 .exact h
def Nm.EU(h:Nm A){s:Aj}{a:Int}:Nm (BS.EU A s p a):=by
 rw[BS.EU];split;.exact(h.add AF).E8
 .exact h
def Nm.IZ:∀{l:List B9} {b:BS},Nm b.a->(∀e∈l,e.name.length<=1000)->Nm (wg l b).2.a
 |[],b,h,_=>h
 |e::l,b,h,c=>by rw[wg];exact Nm.IZ (h.Mf (c e AF)) λx f=>c x (by simp[f])
def Nm.ER(h:Nm b.a):Nm (b.ER l x).a:=by
 rw[BS.ER];split;.exact h.set (h _)
 .exact h
def Nm.Gl{blk anc:Int}{far i:Nat}{l:Int}{mk:Nat}(h:Nm b.a)(r:BW b m):Nm (BS.Gl blk anc far i b l mk).1.a:=by
 rw[BS.Gl];simp only
 split;.exact h
 .split;.exact h
  next e _=>let⟨p,d,c,_,_,_⟩:=HJ (KN.1 e);rw[c,A6,A3,Ap d,EF];exact(h.mk (r.DU _ (AV d)).1).Gu
def Nm.Mj{d e:Int}{b k m:Nat}:∀{c:Nat} {s:BS×Int×Nat},Nm s.1.a->BW s.1 (m+4*c)->Nm (BS.Mj d e b k c s).1.a
 |0,s,h,_=>h
 |c+1,s,h,r=>Nm.Mj (c:=c) (h.Gl r) (QZ (m:=m+4*c) (r.le Ab))
def Nm.C0{n:Int}:∀{l:List Int} {A:Ar},Nm A->Nm (BS.C0 A n l)
 |[],A,h=>h
 |y::l,A,h=>Nm.C0 (l:=l) (h.Gu)
def Nm.HW{f:B9}{d e:Int}{s:BS×Int×Nat}(h:Nm s.1.a)(j:f.name.length<=1000):Nm (BS.HW f d e s).a:=by
 rw[BS.HW];simp only
 generalize eR:s.1.place e=pb;let i:Nm (s.1.a.E8 s.2.1 pb.1 pb.2):=h.E8;let c:=Nm.mk (b:={s.1 with a:=s.1.a.E8 s.2.1 pb.1 pb.2}) (l:=f.Al) (sp:=1) (p:=d) i j;exact(Nm.C0 c).Gu
def Nm.round(h:Nm b.a)(r:BW b (m+4*b.AJ.length+10)):Nm (b.round nm).2.a:=by
 rw[BS.round];simp only
 split
 .have:(b.CZ nm).a=b.a:=by
   rw[wi];split;.split<;>rfl
   .rfl
  rwa[this]
 .rename_i i;let⟨f,d,c⟩:=P3 (KN.1 i);let k:b.AX.getD (D2 nm b.AX).toNat y9=b.AX[f]:=by rw[c,A6,A3,Ap d];rfl
  let l:=r.DU _ (AV d);rw[k];split;.exact h
  .split;.exact h
   .split;.exact h
    .let hlt:(Ef b.AX[f].node b.AJ).toNat-1 -(A7 (Bz b.AX[f].node) b.AJ).toNat<=b.AJ.length:=by
      rw[J0];split;.omega
      .unfold FQ;split;.rename_i j e;have:=(Fu.1 e).1;rw[Bp] at this;omega
       .omega
     exact Nm.HW (Nm.Mj (m:=m) h (r.le Ab)) l.1
def Nm.EB:∀{n:Nat} {b:BS} {k:Nat},Nm b.a->b.AJ.length<=k->BW b (m+n*(4*(k+n)+10))->Nm (BS.EB n b nm).a
 |0,b,k,h,d,r=>h
 |n+1,b,k,h,d,r=>by
  let e:(n+1)*(4*(k+(n+1))+10)=n*(4*(k+1+n)+10)+(4*(k+(n+1))+10):=by rw[Ch,GO,(Ab:k+(n+1)=k+1+n)]
  rw[e] at r;let f:=Q0 (m:=m+n*(4*(k+1+n)+10)) (r.le Ab) nm;let c:=h.round (m:=m+n*(4*(k+1+n)+10)) (nm:=nm) (r.le Ab);unfold BS.EB;simp only
  split;.exact Nm.EB c Ab f.1
  .exact c
def aKN(h:Nm b.a)(d:Sz b (j+1))(c:Ī q):Nm (fU b q).1.a:=fV (P:=λr=>Nm r.1.a)
 (h.Mf c.name)
 (h.Mf c.name)
 (Nm.Mf h c.name)
 (h.KH)
 (by
  dsimp only;rw[BS.DL];split;.exact h.EU
  .exact h.EU)
 (Nm.Mf h c.name)
 (by
  dsimp only;rw[BS.BT];split;.exact h
  .exact h)
 (Nm.IZ h λe f=>(d.rm.DU e (BU f)).1)
 (by
  dsimp only;rw[wi];split
  .split;.exact h
   .exact h
  .exact h)
 (by
  dsimp only;rw[BS.CJ];split
  .unfold BS.Gk;split;.exact h
   .exact h
  .exact Nm.EB (m:=5000000*j) h (Af _) (d.rm.le (by have:=d.AJ;omega)))
 h
 (h.ER)
 (by
  dsimp only;rw[BS.Cu];split;.exact h
  .exact h)
 h
 h
 h
 h
 (by
  dsimp only;rw[BS.Gk];split;.exact h
  .exact h)
 h
 h
 h
 h
 h
 (h.mk c.name)
 h
def za(q:Bool):Nm (DX q).a:=λx=>by rw[Q2];split<;>simp
def aBC(s:FX):Nm s.b.a:=by
 let d:Nm (KE s.Bk s.name s.Al s.Cm).a:=((za s.Cm).mk AR).E8;let c:Nm (NI s.Bk s.name s.Al s.Cm).a:=by rw[NI];split<;>exact d
 unfold FX.b XX;split
 .split;.exact c
  .exact c
 .exact za _
end
structure Gz(b:BS)(n o a):Prop where
 ok:E4 b
 rm:BW b n
 AJ:b.AJ.length<=o
 AX:b.AX.length<=a
 nm:Nm b.a
structure DE.Sm(t:DE):Prop where
 name:t.name.length<=1000
 Al:Eg t.Al
 data:t.data.length<=1000
 r: -2147483648<=t.r/\t.r<=2147483647
section
variable{b b':BS}{n n' o i a j:Nat}{nm:Aj}{l:List Bb}{t:DE}{sp:Int}
def dj(h:Nm b.a)(r:BW b n):Nm b.A4.a:=Nm.IZ h λe c=>(r.DU e (BU c)).1
def qx(h:Nm b.a)(c:b.AJ.length<=o)(r:BW b (n+8*(4*(o+8)+10))):Nm (b.CJ nm).a:=by
 rw[BS.CJ];split;.unfold BS.Gk;split<;>exact h
 .exact Nm.EB h c r
def Gz.le(g:Gz b n o a)(e:n'<=n)(d:o<=i)(c:a<=j):Gz b n' i j:=⟨g.ok,g.rm.le e,BC g.AJ d,BC g.AX c,g.nm⟩
def Gz.ite{c:Prop}[Decidable c]{x y:BS×Bool}(d:Gz x.1 n o a)(b:Gz y.1 n o a):Gz (if c then x else y).1 n o a:=by split;exact d;exact b
def Gz.aKO{d c:Prop}[Decidable d][Decidable c]{x y:BS×Bool}(b:Gz x.1 n o a)(e:Gz y.1 n o a):Gz (if d then x else if c then x else y).1 n o a:= .ite b (.ite b e)
def Gz.aPF{e d c:Prop}[Decidable e][Decidable d][Decidable c]{x y:BS×Bool}(b:Gz x.1 n o a)(f:Gz y.1 n o a):Gz (if e then x else if d then x else if c then x else y).1 n o a:= .ite b (.aKO b f)
def Gz.aBD{f e d c:Prop}[Decidable f][Decidable e][Decidable d][Decidable c]{x y:BS×Bool}(b:Gz x.1 n o a)(h:Gz y.1 n o a):Gz (if f then x else if e then x else if d then x else if c then x else y).1 n o a:= .ite b (.aPF b h)
def Gz.dn(g:Gz b n o a)(h:n'<=n):Gz b n' o a:=g.le h (Af _) (Af _)
def Gz.Mf(g:Gz b (n+4) o a)(f:Eg l)(c:nm.length<=1000):Gz (b.D5 nm l sp) n (o+1) a:=by
 refine⟨SH g.ok,Ji g.rm f c,?_,by rw[D9];exact g.AX,g.nm.Mf c⟩;have:=g.AJ;rw[BS.D5];split
 .rename_i d;let e:(b.EL nm l sp (b.place 0).1).AJ=b.AJ:=by rw[BS.EL];rw[Ae d]
  simp[e,As,A5];omega
 .omega
def Gz.eq{c:BS}(g:Gz b n o a)(h:c.a=b.a)(i:c.Cd=b.Cd)(e:c.AJ=b.AJ)(d:c.AX=b.AX)(f:c.tm=b.tm):Gz c n o a:=
 ⟨g.ok.of_eq h i e d,g.rm.eq h e d f,e▸g.AJ,d▸g.AX,h▸g.nm⟩
section
variable(g:Gz b n o a){lo:List Item}
def Gz.sub{lc:List B9}{lt:List Int}(e:lo.Sublist b.AJ)(d:lc.Sublist b.AX)(c:lt.length<=b.tm.length):Gz {b with AJ:=lo,AX:=lc,tm:=lt} n o a:=
 ⟨((g.ok.I0 e).ao (d)).of_eq rfl rfl rfl rfl,g.rm.sub rfl e d c,BC e.length_le g.AJ,BC d.length_le g.AX,g.nm⟩
def Gz.I0(c:lo.Sublist b.AJ):Gz {b with AJ:=lo} n o a:=g.sub c (AW _) (Af _)
end
def Gz.HH(g:Gz b (n+5) o a)(d:Eg l)(c:nm.length<=1000):Gz (b.HH nm l) n (o+1) (a+1):=by
 let f:=(g.le (n':=n+1+4) Ab (Af _) (Af _)).Mf (sp:=1) d c;refine⟨lS g.ok,YE g.rm d c,f.AJ,?_,g.nm.Mf c⟩;rw[BS.HH];simp only
 let⟨l',i,h⟩:=V0 (l:=(b.D5 nm l 1).AX) (e:=⟨b.a.len+1,nm,l⟩);rw[h,As,A5];have:=i.length_le;have:=f.AX;omega
def Gz.A4(g:Gz b (n+4*a) o a):Gz b.A4 n (o+a) a:=have h1:=g.AX;let h2:=g.AJ;let h:=Ws (g.rm.le Ab);⟨eP g.ok,h.1,Ab,Ab,dj g.nm g.rm⟩
def Gz.CJ(g:Gz b (n+8*(4*(o+8)+10)) o a):Gz (b.CJ nm) n (o+8) (a+8):=by
 refine⟨lV g.ok,?_,?_,?_,qx g.nm g.AJ g.rm⟩<;>unfold BS.CJ<;>split
 .unfold BS.Gk;split;.exact g.rm.le Ab
  .exact(g.rm.I0 (B8 _ _)).le Ab
 .exact(O7 g.AJ g.rm).1
 .have:=g.AJ;rw[BS.Gk];split;.omega
  .simp only[Az];omega
 .exact(O7 g.AJ g.rm).2
 .have:=g.AX;rw[BS.Gk];split<;>(try simp only)<;>omega
 .have:=g.AX;have:=US (n:=8) (b:=b) (nm:=nm);omega
def Gz.Nf(g:Gz b (n+5) o a){r:Int}:Gz (b.Nf r) n o a:=⟨xf g.ok,YI g.rm (Wn _),g.AJ,g.AX,g.nm.KH⟩
def Gz.DL(g:Gz b (n+5) o a){s:Aj}(hs:s.length<=1000){p:Int}:Gz (b.DL s p) n o a:=by
 refine⟨eM g.ok,?_,g.AJ,g.AX,by rw[BS.DL];split<;>exact g.nm.EU⟩;rw[BS.DL];split;.exact L2 g.rm Ab
 .exact L2 g.rm Ab
def Gz.ER(g:Gz b (n+1000) o a)(c:Eg l){h:Int}:Gz (b.ER l h) n o a:=by
 refine⟨au g.ok,fW g.rm c.1,?_,?_,g.nm.ER⟩<;>unfold BS.ER<;>split;.exact g.AJ
 .exact g.AJ
 .exact g.AX
 .exact g.AX
section
variable(g:Gz b n o a)
def Gz.Gk:Gz b.Gk n o a:=by
 rw[BS.Gk];split;.exact g
 .exact g.I0 (B8 _ _)
def Gz.EO{x:Aj}:Gz (b.EO nm x) n o a:=g.I0 (Co.trans Co)
def Gz.BT:Gz b.BT n o a:=by
 rw[BS.BT];split;.exact g.I0 (Co.trans Co)
 .exact g
def Gz.CZ:Gz (b.CZ nm) n o a:=by
 rw[wi];split
 .split;.exact g.I0 (I1.trans Co)
  .exact g
 .exact g
def Gz.HQ:Gz b.HQ n o a:=g.eq rfl rfl rfl rfl rfl
end
def Gz.mark(g:Gz b (n+1) o a):Gz {b with AX:=b.AX++[y9]} n o (a+1):=by
 refine⟨vM g.ok,g.rm.aw (e:=y9) AF (λe c=>?_) ⟨AR,AR,λa d=>by cases d⟩,g.AJ,?_,g.nm⟩
 .rcases AA.1 c with c|c
  .exact .inl c
  .exact .inr (zv c)
 .have:=g.AX;rw[As,A5];omega
def Gz.tm(g:Gz b (n+1) o a){m:Int}:Gz {b with tm:=b.tm++[m]} n o a:=have r:=g.rm;let c:=r.le Ab;⟨g.ok.of_eq rfl rfl rfl rfl,⟨c.n,c.at_,c.data,c.AJ,c.AX,by have:=r.tm;rw[As,A5];omega,c.DU,c.YD⟩,g.AJ,g.AX,g.nm⟩
def Gz.Cu(g:Gz b n o a):Gz b.Cu n o a:=by
 rw[BS.Cu];split;.exact g
 .exact(g.sub (Co.trans Co) (B8 _ _) AF).HQ
def Gz.DM(g:Gz b (n+4) o a){s:Int}(d:Eg l)(c:nm.length<=1000):Gz (b.DM nm l s) n (o+1) a:=(g.Mf d c).eq rfl rfl rfl rfl rfl
def Gz.C3(g:Gz b (n+4) o a)(c:t.Sm):Gz (b.C3 t) n (o+1) a:=g.Mf c.Al c.name
def HM(h:nm.length<=1000):(Lj nm).Sm:=⟨h,⟨show([]:List Bb).length<=1000 by decide,λa b=>by cases b⟩,(AR:([]:Aj).length<=1000),show(-2147483648)<=0/\0<=2147483647 by decide⟩
def Gz.I2(g:Gz b (n+4) o a)(c:t.Sm):Gz (b.I2 t) n (o+1) a:=(g.C3 c).Gk
def Gz.Hq(g:Gz b (n+1000) o a)(c:t.Sm):Gz (b.Hq t) n o a:=by
 rw[BS.Hq];split;.exact g.le Ab (Af _) (Af _)
 .exact g.ER c.Al
section
variable(g:Gz b (n+1004) o a)(f:t.Sm)
def Gz.CM:Gz (b.CM t).1 n (o+1) (a+1):=by let e:Gz b n (o+1) (a+1):=g.le Ab Ab Ab;let d:Gz b (n+4) o a:=g.le Ab Ab Ab;rw[BS.CM];refine .aBD e (.ite ((g.le Ab (Af _) (Af _)).Nf.le (Af _) Ab Ab) (.ite (((g.le Ab (Af _) (Af _)).DL f.data).le (Af _) Ab Ab) (.ite (((g.le Ab (Af _) (Af _)).Hq f).le (Af _) Ab Ab) (.ite ((d.I2 f).le (Af _) Ab Ab) (.ite ((d.DM f.Al f.name).le (Af _) Ab Ab) (.ite ((d.DM f.Al f.name).le (Af _) Ab Ab) (.ite ((d.DM f.Al f.name).le (Af _) Ab Ab) (.ite (((d.C3 f).le (Af _) Ab Ab).eq rfl rfl rfl rfl rfl) (.ite ((d.Gk.le Ab Ab Ab).eq rfl rfl rfl rfl rfl) (.ite ?_ (.ite (d.Cu.le Ab Ab Ab) ((d.Gk.le Ab Ab Ab).eq rfl rfl rfl rfl rfl))))))))))));exact((((g.le Ab (Af _) (Af _)).C3 f).mark.tm).eq rfl rfl rfl rfl rfl)
def Gz.FI:Gz (b.FI t).1 n (o+1) (a+1):=by let c:Gz b n (o+1) (a+1):=g.le Ab Ab Ab;rw[BS.FI];exact .aBD c (.ite (((g.le Ab (Af _) (Af _)).Hq f).le (Af _) Ab Ab) (.ite (c.Gk.eq rfl rfl rfl rfl rfl) (.aPF (g.CM f) (c.Gk.eq rfl rfl rfl rfl rfl))))
end
def Gz.L4(g:Gz b (n+5) o a):Gz (b.L4 t).1 n o a:=by let c:Gz b n o a:=g.le Ab Ab Ab;rw[BS.L4];exact .ite c (.ite g.Nf (.ite (c.Gk.eq rfl rfl rfl rfl rfl) (.ite (c.Gk.eq rfl rfl rfl rfl rfl) c)))
def Gz.Rp(g:Gz b (n+4*a+5) o a):Gz (b.Rp t) n (o+a) a:=by
 let c:Gz (b.A4.Nf t.r) n (o+a) a:=(g.le Ab (Af _) (Af _)).A4.Nf;rw[BS.Rp];split;.exact g.le Ab Ab (Af _)
 .split;.exact c
  .exact c.eq rfl rfl rfl rfl rfl
def Gz.UX(g:Gz b n o a):Gz b.UX.1 n o a:=by
 rw[BS.UX];split;.exact(g.sub Co (B8 _ _) AF).HQ
 .exact g.eq rfl rfl rfl rfl rfl
def Gz.Ey(g:Gz b (n+1) o a){m:Int}:Gz (b.Ey m).1 n o a:=have c:=(g.sub (lt:=b.tm.dropLast) (AW _) (AW _) AF).tm;c.eq rfl rfl rfl rfl rfl
def Gz.EP(g:Gz b (n+4*a+1005) o a)(e:t.Sm):Gz (b.EP t).1 n (o+a+1) (a+1):=by let d:Gz b n (o+a+1) (a+1):=g.le Ab Ab Ab;let c:∀m,Gz (b.Ey m).1 n (o+a+1) (a+1):=λm=>(g.le Ab (Af _) (Af _)).Ey.le (Af _) Ab Ab;rw[BS.EP];exact .ite d (.ite ((g.le Ab (Af _) (Af _)).Rp.le (Af _) Ab Ab) (.ite (((g.le Ab (Af _) (Af _)).DL e.data).le (Af _) Ab Ab) (.ite d (.aKO (((g.le Ab (Af _) (Af _)).CM e).le (Af _) Ab Ab) (.ite (c 9) (.ite (c 12) (.ite (c 13) (.ite (c 14) (.ite (c 7) (.ite d d.UX))))))))))
section
variable(g:Gz b (n+4) o a)(c:t.Sm)
def Gz.block:Gz (b.block t) n (o+1) a:=g.BT.C3 c
def Gz.NU:Gz (b.NU t) n (o+1) a:=by
 rw[BS.NU];refine Gz.C3 ?_ c;split;.exact g.BT.Gk
 .exact g.BT
def Gz.W0:Gz (b.W0 t) n (o+1) a:=(g.block c).eq rfl rfl rfl rfl rfl
def Gz.Wy:Gz (b.Wy t) n (o+1) a:=by
 rw[BS.Wy];split;.exact g.le Ab Ab (Af _)
 .simp only;split;.exact g.BT.C3 c
  .exact(g.BT.C3 c).eq rfl rfl rfl rfl rfl
end
def Gz.Fk(g:Gz b n o a){c:List Aj}:Gz (b.Fk c) n o a:=by
 rw[BS.Fk];split
 .split;.exact g.EO
  .exact g
 .exact g
def Gz.db(g:Gz b (n+4) o a)(d:t.Sm):Gz (b.db t) n (o+1) a:=(g.eq (c:={b with fs:=zy}) rfl rfl rfl rfl rfl).Fk.block d
def Gz.SY(g:Gz b (n+4*a+4) o a)(c:t.Sm):Gz (b.SY t) n (o+a+1) a:=by
 let d:Gz (if b.has [a2G] then b.EO a2G [] else b) (n+4+4*a) o a:=by
  split;.exact g.EO.le Ab (Af _) (Af _)
  .exact g.le Ab (Af _) (Af _)
 exact(d.A4.C3 c).eq rfl rfl rfl rfl rfl
def Gz.fmt(g:Gz b (n+4*a+5) o a)(c:t.Sm):Gz (b.fmt t) n (o+a+1) (a+1):=((g.le Ab (Af _) (Af _)).A4.HH c.Al c.name)
def O9{l:List B9}{x:Int}:(BS.JH l x).Sublist l:=by
 rw[BS.JH];split;.exact AW _
 .exact Ds
def Gz.Ov(g:Gz b (n+8*(4*(o+8)+10)) o a):Gz b.Ov n (o+8) (a+8):=by
 rw[BS.Ov];simp only;split;.exact g.le Ab Ab Ab
 .exact g.CJ.sub Hp O9 (Af _)
def Gz.dd(g:Gz b (n+8*(4*(o+8)+10)+4*(a+8)+5) o a)(c:t.Sm):Gz (b.dd t) n (o+a+17) (a+9):=
 (Gz.fmt ((g.le Ab (Af _) (Af _)).Ov) c).le (Af _) Ab (Af _)
def Gz.de(g:Gz b (n+8*(4*(o+a+8)+10)+8*a+100) o a)(c:t.Sm):Gz (b.de t) n (o+2*a+17) (a+9):=by
 let d:Gz b.A4 (n+5+4*(a+8)+8*(4*(o+a+8)+10)) (o+a) a:=(g.le Ab (Af _) (Af _)).A4;let e:Gz (if b.A4.has [a2P] then(b.A4.CJ a2P).A4 else b.A4) (n+5) (o+a+8+(a+8)) (a+8):=by
  split;.exact d.CJ.A4
  .exact d.le Ab Ab Ab
 exact(e.HH c.Al c.name).le (Af _) Ab (Af _)
def Gz.B6(g:Gz b (n+4*a+5) o a)(c:t.Sm):Gz (b.B6 t) n (o+a+1) (a+1):=
 (((g.le Ab (Af _) (Af _)).A4.C3 c).mark).eq rfl rfl rfl rfl rfl
def Gz.Q5(g:Gz b (n+4) o a)(c:t.Sm):Gz (b.Q5 t) n (o+1) a:=by
 let d:Gz (if(b.a.nd b.Cd).Cm then b else b.BT) (n+4) o a:=by
  split;.exact g
  .exact g.BT
 exact(d.C3 c).eq rfl rfl rfl rfl rfl
def DE.Sm.rn(a:t.Sm)(h:nm.length<=1000):({t with name:=nm}:DE).Sm:=⟨h,a.Al,a.data,a.r⟩
section
variable(g:Gz b (n+4*a+4) o a)(f:t.Sm)
def Gz.empty:Gz (b.empty t) n (o+a+1) a:=by
 let d:Gz b (n+4) o a:=g.le Ab (Af _) (Af _);let c:Gz b.A4 (n+4) (o+a) a:=(g.le Ab (Af _) (Af _)).A4;rw[BS.empty];split;.exact((d.BT.I2 f).le (Af _) Ab (Af _)).eq rfl rfl rfl rfl rfl
 .split;.exact((d.I2 f).le (Af _) Ab (Af _)).eq rfl rfl rfl rfl rfl
  .split;.exact(c.I2 f).eq rfl rfl rfl rfl rfl
   .exact(c.I2 (f.rn (by split;exact AR;exact f.name))).eq rfl rfl rfl rfl rfl
def Gz.raw:Gz (b.raw t) n (o+a+1) a:=by
 let d:Gz b (n+4) o a:=g.le Ab (Af _) (Af _);let e:Gz b.BT.A4 (n+4) (o+a) a:=(g.BT.le Ab (Af _) (Af _)).A4;rw[BS.raw];split;.exact((d.block f).le (Af _) Ab (Af _)).eq rfl rfl rfl rfl rfl
 .split;.exact((d.DM (s:=2) f.Al f.name).le (Af _) Ab (Af _)).eq rfl rfl rfl rfl rfl
  .split;.exact(e.eq (c:={b.BT.A4 with fs:=zy}) rfl rfl rfl rfl rfl).DM f.Al f.name
   .split;.exact((d.eq (c:={b with fs:=zy}) rfl rfl rfl rfl rfl).DM f.Al f.name).le (Af _) Ab (Af _)
    .exact(d.DM f.Al f.name).le (Af _) Ab (Af _)
def Gz.SZ:Gz (b.SZ t) n (o+a+1) a:=
 ((g.le Ab (Af _) (Af _)).A4.C3 f).eq rfl rfl rfl rfl rfl
def Gz.S0:Gz (b.S0 t) n (o+a+1) a:=by
 let c:Gz (if AS [a3a] (DZ b.AJ) then b.Gk else b) (n+4+4*a) o a:=by
  split;.exact g.Gk.le Ab (Af _) (Af _)
  .exact g.le Ab (Af _) (Af _)
 exact c.A4.C3 f
end
def Gz.gI(g:Gz b (n+4) o a)(c:t.Sm):Gz (b.gI t) n (o+1) a:=by
 rw[BS.gI];refine Gz.C3 ?_ c;split;.exact g.I0 Co
 .exact g
def Gz.NV(g:Gz b (n+4*a+4) o a)(c:t.Sm):Gz (b.NV t) n (o+a+1) a:=by
 let d:=(g.le (n':=n+4+4*a) Ab (Af _) (Af _)).A4.Mf (sp:=if t.name=a4l then 3 else 2) c.Al c.name;unfold BS.NV;simp only;split;.exact d.Gk
 .exact d
def S1(h:b.I9=z8):Dl b.AJ 1∈b.AJ.tail:=by
 rw[BS.I9] at h;rw[Bs,Cj] at h;let⟨h,_⟩:=h;revert h;generalize b.AJ=l;intro h;match l,h with
 |x::y::l,_=>exact List.mem_cons_self
def Oy{x:Int}:Pl b.a (b.a.cut x):=by
 rw[Ar.cut];simp only;split;.exact .refl
 .exact Pl.trans XJ XK
def Gz.Kx(g:Gz b (n+4) o a)(d:t.Sm):Gz (b.Kx t) n (o+1) a:=by
 rw[BS.Kx];split;.exact g.le Ab Ab (Af _)
 .rename_i h;let f:b.I9=z8:=by
   cases e:b.I9;.cases h (.inl e)
   .rfl
  let c:=g.ok.op _ (S1 f);let i:Gz {b with a:=b.a.cut (Dl b.AJ 1).node} (n+4) o a:=⟨g.ok.IN (XD g.ok.ok c.1 (by rw[c.2];decide)) SF,g.rm.IN Oy,g.AJ,g.AX,g.nm.le SF Oy.n⟩;exact((i.I0 (B8 _ _)).C3 d).eq rfl rfl rfl rfl rfl
def Gz.MK(g:Gz b (n+1000) o a)(d:t.Sm):Gz (b.MK t) n o a:=by
 let e:Gz b n o a:=g.le Ab (Af _) (Af _);rw[BS.MK];split;.exact e
 .split;.exact g.ER d.Al
  .split;.exact(g.eq (c:={b with fs:=zy}) rfl rfl rfl rfl rfl).ER d.Al
   .exact e
def Gz.opens(g:Gz b (n+8*(4*(o+a+8)+10)+8*a+2000) o a)(d:t.Sm):Gz (b.opens t).1 n (o+2*a+17) (a+9):=by
 let c:∀{m},m<=n+8*(4*(o+a+8)+10)+8*a+2000->Gz b m o a:=λh=>g.le h (Af _) (Af _);rw[BS.opens];exact .ite (((c Ab).CM d).le (Af _) Ab Ab)
  (.ite (((c Ab).block d).le (Af _) Ab Ab)
  (.ite (((c Ab).NU d).le (Af _) Ab Ab)
  (.ite (((c Ab).W0 d).le (Af _) Ab Ab)
  (.ite (((c Ab).fmt d).le (Af _) Ab Ab)
  (.ite (((c Ab).B6 d).le (Af _) Ab Ab)
  (.ite (((c Ab).empty d).le (Af _) Ab Ab)
  (.ite (c Ab |>.le (Af _) Ab Ab)
  (.ite (((c Ab).raw d).le (Af _) Ab Ab)
  (.ite (((c Ab).gI d).le (Af _) Ab Ab)
  (.ite (((c Ab).NV d).le (Af _) Ab Ab)
  (.ite (((c Ab).db d).le (Af _) Ab Ab)
  (.ite (((c Ab).S0 d).le (Af _) Ab Ab)
  (.ite (((c Ab).MK d).le (Af _) Ab Ab)
  (.ite (((c Ab).Kx d).le (Af _) Ab Ab)
  (.ite (((c Ab).Wy d).le (Af _) Ab Ab)
  (.ite (((c Ab).SY d).le (Af _) Ab Ab)
  (.ite (((c Ab).dd d).le (Af _) Ab Ab)
  (.ite (((c Ab).de d).le (Af _) Ab Ab)
  (.ite (((c Ab).Q5 d).le (Af _) Ab Ab)
  (.ite (((c Ab).SZ d).le (Af _) Ab Ab)
  (((c Ab).A4.C3 d).le (Af _) Ab Ab)))))))))))))))))))))
def Gz.J6(g:Gz b n o a):Gz (b.J6 t) n o a:=by
 rw[BS.J6];split;.exact g.EO
 .exact g
def Gz.M2(g:Gz b (n+4) o a):Gz (b.M2 t) n (o+1) a:=by
 let c:Gz b n (o+1) a:=g.le Ab Ab (Af _);unfold BS.M2;dsimp only;generalize b.GA _ _=q;cases q
 .by_cases h:t.name=[112];.simp only[Cy,DW,Ae h];exact(g.C3 (HM (AR:([112]:Aj).length<=1000))).EO
  .simp only[Cy,DW,Aa h];exact c
 .exact c.EO
section
variable(g:Gz b (n+8*(4*(o+a+8)+10)+8*a+2000) o a)(f:t.Sm)
def Gz.Lm:Gz (b.Lm t).1 n (o+2*a+17) (a+9):=by
 let d:∀{m},m<=n+8*(4*(o+a+8)+10)+8*a+2000->Gz b m o a:=λh=>g.le h (Af _) (Af _);let c:Gz b n (o+2*a+17) (a+9):=g.le Ab Ab Ab;rw[BS.Lm];refine .ite (((d Ab).CM f).le (Af _) Ab Ab)
  (.ite ?_ (.ite c.J6 (.ite (((d Ab).CJ).le (Af _) Ab Ab)
  (.ite ?_ (.ite ?_ (.ite (((d Ab).M2).le (Af _) Ab Ab) (.ite ?_
  (.ite (((d Ab).empty (HM (nm:=[98,114]) AR)).le (Af _) Ab Ab) c.CZ))))))))
 .unfold BS.TI;split;.exact c.eq rfl rfl rfl rfl rfl
  .exact c
 .unfold BS.Ow;split;.exact c.I0 (Co.trans Co)
  .exact c
 .unfold BS.Qc;split;.exact(c.sub (Co.trans Co) (B8 _ _) (Af _)).eq rfl rfl rfl rfl rfl
  .exact c
 .unfold BS.WA;split;.exact c.J6
  .split;.exact(c.I0 (Hp.trans Co)).eq rfl rfl rfl rfl rfl
   .exact c.eq rfl rfl rfl rfl rfl
def Gz.L5:Gz (b.L5 t).1 n (o+2*a+17) (a+9):=by
 let d:∀{m},m<=n+8*(4*(o+a+8)+10)+8*a+2000->Gz b m o a:=λh=>g.le h (Af _) (Af _);let e:Gz b n (o+2*a+17) (a+9):=g.le Ab Ab Ab;rw[BS.L5];exact .ite e (.ite (((d Ab).Rp).le (Af _) Ab Ab)
  (.ite (((d Ab).DL f.data).le (Af _) Ab Ab)
  (.ite (.ite (((d Ab).EP f).le (Af _) Ab Ab) (e.eq rfl rfl rfl rfl rfl))
  (.ite (g.opens f) (.ite (g.Lm f) e)))))
end
def Gz.gH(g:Gz b n o a):Gz b.gH n o a:=by let e:=g.ok.Cd;let d:=g.ok.ok.Vd _ e.1;refine⟨g.ok.IN (mr g.ok.ok e.1 ⟨d.k,d.Bj,d.elem,d.nm,d.dt,d.data,λh=>absurd e.2 h,d.sp,d.asp,d.CL,d.VX,d.Rm,d.root,d.wj⟩ rfl rfl rfl ⟨(g.ok.ok.Cd _ e.1).1,(g.ok.ok.Cd _ e.1).2,g.ok.ok.jP _ e.1⟩ rfl rfl λc=>c) (eJ rfl rfl rfl),g.rm.IN (eT rfl rfl),g.AJ,g.AX,g.nm.set (g.nm _)⟩
def Gz.SX(g:Gz b (n+1) o a)(d:t.Sm):Gz (b.SX t) n o a:=by
 let e:=g.ok.Cd;let c:mn {kind:=3,Cd:=b.Cd,name:=t.name,Ho:=t.Ho,sys:=t.sys}:=by constructor<;>simp[CL,HP,iR]
 let f:=SD g.ok.ok c (.inr ⟨AF,e⟩) rfl rfl rfl rfl (λh=>absurd h.1 (AR:¬(3:Int)=4));exact⟨g.ok.IN (QN f) (XI.trans O0),(g.rm.Kh (LW AF AF)).IN Ku,g.AJ,g.AX,(g.nm.add d.name).Gu⟩
def Gz.JG{d:DE->Bool}(g:Gz b (n+5) o a)(c:t.Sm):Gz (b.JG d t).1 n o a:=by
 let f:Gz b n o a:=g.le Ab (Af _) (Af _);rw[BS.JG];refine .aKO f (.ite (g.DL c.data) (.ite (f.gH.eq rfl rfl rfl rfl rfl) ?_));let e:=(g.le (n':=n+1) Ab (Af _) (Af _)).SX c;simp only;split;.exact e.gH.eq rfl rfl rfl rfl rfl
 .exact e.eq rfl rfl rfl rfl rfl
def Gz.FG(g:Gz b (n+5) o a)(c:t.Sm):Gz (b.FG t).1 n (o+1) a:=by let d:Gz b (n+4) o a:=g.le Ab (Af _) (Af _);rw[BS.FG];exact .aBD (d.le Ab Ab (Af _)) (.ite ((g.DL c.data).le (Af _) Ab (Af _)) (.ite ((d.C3 c).eq rfl rfl rfl rfl rfl) ((d.C3 (HM AR)).eq rfl rfl rfl rfl rfl)))
def Gz.FH(g:Gz b (n+1000) o a)(c:t.Sm):Gz (b.FH t).1 n (o+1) a:=by let d:Gz b (n+4) o a:=g.le Ab (Af _) (Af _);let e:Gz b (n+5) o a:=g.le Ab (Af _) (Af _);rw[BS.FH];exact .aBD (d.le Ab Ab (Af _)) (.ite ((e.DL c.data).le (Af _) Ab (Af _)) (.ite ((g.Hq c).le (Af _) Ab (Af _)) (.ite ((d.C3 c).eq rfl rfl rfl rfl rfl) ((d.C3 (HM AR)).eq rfl rfl rfl rfl rfl))))
end
end Go.Am
end
set_option maxRecDepth 100000
open List renaming replicate→z4
open Bool renaming decide_or→x8
open Go.Am.Ad renaming func→z5,str→y3
open Go.Fn renaming func→z7
open Go.Am.BS renaming JH→x5,Ja→wx,Ep→wt
section
namespace Go.Am
open Go
def GB(h:Ak)(F:Nat->Prop)(f:FuncId)(a:List Ad)(r:Ad)(d:Nat)(e:BS):Prop:=∃b c,BF cx f a h r b/\PB b d e c/\Dx h F b c
abbrev Bc(t:DE)(av:Ad):List Ad:=[I t.k,yu t.name,zu t.hn,yu t.Ho,zu t.hp,yu t.sys,zu t.hs,zu t.q,av,zu t.sc,yu t.data,.int y4 t.r]
section
variable{h p:Ak}{j:Nat}{b q:BS}{F:Nat->Prop}{n o a:Nat}{t:DE}{av:Ad}
def IU:P2 t.name av (Bc t av):=⟨_,_,_,_,_,_,_,_,_,_,rfl⟩
def Gb(w:PB h j b F)(g:Gz b (n+4) o a)(f:t.Sm)(l:AK t.Al av):GB h F 57 [Pt j 0,.agg (Bc t av)] (I (b.Lh 1)) j (b.C3 t):=by obtain⟨d,e,c,tt,G,w,hc,rfl⟩:=w;let⟨p,k,m,r,i,x⟩:=ô w g.ok g.rm IU l f.Al f.name;exact⟨p,_,r,⟨d,k,c,tt,m,i,by rw[BS.C3];rwa[D9],rfl⟩,x⟩
def vP(w:PB h j b F)(g:Gz b (n+4) o a)(f:t.Sm)(l:AK t.Al av)sp:GB h F 59 [Pt j 0,.agg (Bc t av),I sp] (I (b.Lh sp)) j (b.D5 t.name t.Al sp):=by obtain⟨d,e,c,tt,G,w,hc,rfl⟩:=w;let⟨p,k,q,r,i,x⟩:=aKj w g.ok g.rm IU l f.Al f.name sp;exact⟨p,_,r,⟨d,k,c,tt,q,i,by rwa[D9],rfl⟩,x⟩
def aBE(w:PB h j b F)(g:Gz b (n+5) o a)(f:t.Sm)(l:AK t.Al av):GB h F 60 [Pt j 0,.agg (Bc t av)] (I (b.a.len+1)) j (b.HH t.name t.Al):=by obtain⟨d,e,c,tt,G,w,m,rfl⟩:=w;let⟨p,k,q,v,r,i,u,x⟩:=aOC w m g.ok g.rm IU l f.Al f.name;exact⟨p,_,r,⟨d,k,q,tt,v,i,u,rfl⟩,x⟩
def gK(w:PB h j b F)(g:Gz b (n+5) o a){r:Int}(i: -2147483648<=r/\r<=2147483647):GB h F 61 [Pt j 0,.int y4 r] (zm []) j (b.Nf r):=by obtain⟨e,d,c,tt,G,w,k,rfl⟩:=w;let⟨p,l,r,f,x⟩:=aOI w g.ok g.rm r i;exact⟨p,_,r,⟨e,d,c,tt,l,f,k,rfl⟩,x⟩
def N2(w:PB h j b F)(g:Gz b (n+1) o a){s:Aj}(i:s.length<=100000)x:GB h F 62 [Pt j 0,yu s,I x] (zm []) j (b.DL s x):=by obtain⟨e,d,c,tt,G,w,k,rfl⟩:=w;let⟨p,l,r,f,x⟩:=aOK w g.ok g.rm s i x;exact⟨p,_,r,⟨e,d,c,tt,l,f,k,rfl⟩,x⟩
def gL(w:PB h j b F)(g:Gz b (n+4) o a)(f:t.Sm)(l:AK t.Al av)s:GB h F 63 [Pt j 0,.agg (Bc t av),I s] (zm []) j (b.DM t.name t.Al s):=by obtain⟨d,e,c,tt,G,w,hc,rfl⟩:=w;let⟨p,k,q,r,i,x⟩:=aKn w g.ok g.rm IU l f.Al f.name s;exact⟨p,_,r,⟨d,k,c,tt,q,i,by show Ca (b.D5 t.name t.Al 1).AX c;rwa[D9],rfl⟩,x⟩
def KX(w:PB h j b F)(g:Gz b n o a):GB h F 64 [Pt j 0] (zm []) j b.BT:=by obtain⟨d,f,c,tt,G,w,hc,rfl⟩:=w;let⟨p,k,r,i,x⟩:=aOL w g.rm;exact⟨p,_,r,⟨d,k,c,tt,G,i,by let e:b.BT.AX=b.AX:=(by rw[BS.BT];split<;>rfl);rwa[e],rfl⟩,x⟩
def Dm(w:PB h j b F)(g:Gz b (n+4*a) o a):GB h F 65 [Pt j 0] (zm []) j b.A4:=by obtain⟨d,e,c,tt,G,w,k,rfl⟩:=w;let⟨p,i,l,s,r,f,q,x⟩:=aOV (m:=n) w k g.ok (g.rm.le (by have:=g.AX;omega));exact⟨p,_,r,⟨d,i,l,tt,s,f,q,rfl⟩,x⟩
def aBF(w:PB h j b F)(g:Gz b n o a)(nm:Aj):GB h F 66 [Pt j 0,yu nm] (zm []) j (b.CZ nm):=by obtain⟨d,f,c,tt,G,w,hc,rfl⟩:=w;let⟨p,k,r,i,x⟩:=aKo w g.rm nm;exact⟨p,_,r,⟨d,k,c,tt,G,i,by let e:(b.CZ nm).AX=b.AX:=(by rw[wi];split;split<;>rfl;rfl);rwa[e],rfl⟩,x⟩
def aF3(w:PB h j b F)(g:Gz b n o a):GB h F 68 [Pt j 0] (zm []) j b.HQ:=by obtain⟨e,d,c,tt,G,w,i,rfl⟩:=w;let⟨p,r,f,x⟩:=aBj w g.rm;exact⟨p,_,r,⟨e,d,c,tt,G,f,i,rfl⟩,x⟩
def zb(w:PB h j b F)(g:Gz b (n+1000) o a)(l:t.Sm)(k:AK t.Al av)x:GB h F 69 [Pt j 0,.agg (Bc t av),I x] (zm []) j (b.ER t.Al x):=by obtain⟨f,d,c,tt,G,w,hc,rfl⟩:=w;obtain⟨p,q,r,i,x⟩:=aOQ w g.ok g.rm IU k l.Al x;exact⟨p,_,r,⟨f,d,c,tt,q,i,by let e:∀y,(b.ER t.Al y).AX=b.AX:=(λy=>by rw[BS.ER];split<;>rfl);rwa[e],rfl⟩,x⟩
def aKP(w:PB h j b F)(g:Gz b n o a):GB h F 70 [Pt j 0] (zm []) j b.Cu:=by obtain⟨d,e,c,tt,G,w,l,rfl⟩:=w;let⟨p,k,m,i,r,f,q,x⟩:=aOR w l g.rm;exact⟨p,_,r,⟨d,k,m,i,G,f,q,rfl⟩,x⟩
def aBG(w:PB h j b F):GB h F 71 [Pt j 0] (zm []) j {b with stop:=z8}:=by obtain⟨e,d,c,tt,G,w,f,rfl⟩:=w;let⟨p,r,a,x⟩:=aOS w;exact⟨p,_,r,⟨e,d,c,tt,G,a,f,rfl⟩,x⟩
def gM(w:PB h j b F)(g:Gz b (n+8*(4*(o+8)+10)) o a)(nm:Aj):GB h F 67 [Pt j 0,yu nm] (zm []) j (b.CJ nm):=by obtain⟨d,e,c,tt,G,w,k,rfl⟩:=w;let⟨p,i,l,s,r,f,q,x⟩:=aPc (m:=n) w k g.ok (g.rm.le (by have:=g.AJ;omega)) nm;exact⟨p,_,r,⟨d,i,l,tt,s,f,q,rfl⟩,x⟩
def Rq(w:PB h j b F)(g:Gz b n o a):GB h F 74 [Pt j 2] (.agg b.pC.row) j b.Gk:=by obtain⟨d,f,c,tt,G,w,hc,rfl⟩:=w;let⟨p,k,r,i,x⟩:=aFK w g.rm;exact⟨p,_,r,⟨d,k,c,tt,G,i,by let e:b.Gk.AX=b.AX:=(by rw[BS.Gk];split<;>rfl);rwa[e],rfl⟩,x⟩
def aBH(w:PB h j b F)(g:Gz b n o a):GB h F 72 [Pt j 3] (zm []) j {b with AX:=b.AX++[y9]}:=by obtain⟨e,d,c,tt,G,w,l,rfl⟩:=w;let p:=g.rm.AX;let⟨fs,f,m⟩:=l;let⟨u,i,k⟩:=f63 ⟨c,w.vA,m⟩ (by rw[<-f,Ao] at p;omega);exact⟨_,_,i,⟨e,d,u,tt,G,w.KJ,⟨_,by rw[BJ,f];rfl,k⟩,rfl⟩,Be⟩
def zc(w:PB h j b F)(g:Gz b n o a):∃r,GB h F 75 [Pt j 3] r j {b with AX:=Et b.AX}:=by obtain⟨e,d,c,tt,G,w,l,rfl⟩:=w;let p:=g.rm.AX;let⟨fs,f,m⟩:=l;let⟨u,i,k⟩:=f65 ⟨c,w.vA,m⟩ (by rw[<-f,Ao] at p;omega);exact⟨_,_,_,i,⟨e,d,u,tt,G,w.KJ,⟨_,by rw[TF,f],k⟩,rfl⟩,Be⟩
def vQ(w:PB h j b F)(g:Gz b n o a){v:Ad}{f:List Aj}(k:HU f v)(m:f.length<=1000000000):∃r,GB h F 76 [Pt j 2,v] r j {b with AJ:=Dg Cl (AS f) b.AJ}:=by obtain⟨d,e,c,tt,G,w,p,rfl⟩:=w;let ho:=g.rm.AJ;let⟨u,i,l⟩:=f66 w.sO Ab k m;exact⟨_,_,_,i,⟨d,u,c,tt,G,w.IB l,p,rfl⟩,Be⟩
def N3(w:PB h j b F)(g:Gz b n o a)(s:Aj):∃r,GB h F 173 [Pt j 2,yu s] r j {b with AJ:=Dg (CN s) Cl b.AJ}:=by obtain⟨d,e,c,tt,G,w,k,rfl⟩:=w;let ho:=g.rm.AJ;let⟨u,f,i⟩:=aJ7 w.sO Ab s;exact⟨_,_,_,f,⟨d,u,c,tt,G,w.IB i,k,rfl⟩,Be⟩
def dk(w:PB h j b F)(g:Gz b n o a)x:∃r,GB h F 238 [Pt j 2,I x] r j {b with AJ:=Cn x b.AJ}:=by obtain⟨d,e,c,tt,G,w,k,rfl⟩:=w;let ho:=g.rm.AJ;let⟨u,f,i⟩:=aAX w.sO Ab x;exact⟨_,_,_,f,⟨d,u,c,tt,G,w.IB i,k,rfl⟩,Be⟩
def aKQ(w:PB h j b F)(g:Gz b n o a)(i:Item):GB h F 154 [Pt j 2,.agg i.row] (zm []) j {b with AJ:=b.AJ++[i]}:=by obtain⟨d,e,c,tt,G,w,l,rfl⟩:=w;let ho:=g.rm.AJ;let⟨u,f,k⟩:=f95 w.sO Ab i;exact⟨_,_,f,⟨d,u,c,tt,G,w.IB k,l,rfl⟩,Be⟩
def PB.sA(w:PB h j b F):Ü h (Pt j 2) b.AJ:=by obtain⟨e,d,c,tt,G,w,hc,rfl⟩:=w;exact w.sA
def PB.N9(w:PB h j b F):∃x,A8 h none (Pt j 0)=zw (Pt x 0):=by obtain⟨d,e,c,tt,G,w,hc,rfl⟩:=w;exact⟨d,w.l0⟩
def PB.Cg(w:PB h j b F):A8 h none (Pt j 1)=zw (I b.Cd)/\A8 h none (Pt j 4)=zw (I b.mode)/\A8 h none (Pt j 5)=zw (I b.Kt)/\A8 h none (Pt j 7)=zw (I b.head)/\A8 h none (Pt j 8)=zw (I b.Fx)/\A8 h none (Pt j 14)=zw (zu b.fs)/\A8 h none (Pt j 18)=zw (I b.sw)/\A8 h none (Pt j 19)=zw (zu b.stop):=by obtain⟨e,d,c,tt,G,w,hc,rfl⟩:=w;exact⟨w.ld 1,w.ld 4,w.ld 5,w.ld 7,w.ld 8,w.ld 14,w.ld 18,w.ld 19⟩
def PB.ltm(w:PB h j b F):∃v,A8 h none (Pt j 6)=zw v/\Wl b.tm v:=by obtain⟨e,d,c,tt,G,w,hc,rfl⟩:=w;exact⟨tt,w.l6,w.t⟩
section
variable(w:PB h j b F)
def WC(g:Gz b n o a)s{v:Ad}{c:List Aj}(e:HU c v)(d:c.length<=1000000000):BF cx 172 [Pt j 2,I s,v] h (zu (b.GA s (AS c))) h:=
 aNR w.sA (by have:=g.rm.AJ;omega) s e d
def dr(g:Gz b n o a)(s x):BF cx 323 [Pt j 2,I s,I x] h (zu (b.GA s (Bz x))) h:=
 aNS w.sA (by have:=g.rm.AJ;omega) s x
def aKR(g:Gz b n o a)(s:Aj):BF cx 188 [Pt j 2,yu s] h (I (A7 (AS [s]) b.AJ)) h:=
 aFs w.sA (by have:=g.rm.AJ;omega) s
def aF4 i:BF cx 178 [Pt j 2,I i] h (.agg (Dl b.AJ i).row) h:=Zg w.sA i
def gN:BF cx 177 [Pt j 2] h (I b.AJ.length) h:=XP w.sA
end
def du(w:PB h j b F)(g:Gz b n o a):BF cx 181 [Pt j 0] h (.agg (DZ b.AJ).row) h:=by obtain⟨e,d,c,tt,G,w,hc,rfl⟩:=w;exact aKh w g.rm
def Wr(h:Ak)(F:Nat->Prop)(j k:Nat)(v:Ad)(q:BS):Prop:=Cv h 1 (Pt j k) v=zw (put h j k v)/\PB (put h j k v) j q F/\Dx h F (put h j k v) F
def Hk(w:PB h j b F)v:Wr h F j 4 (I v) {b with mode:=v}:=by obtain⟨e,d,c,tt,G,w,a,rfl⟩:=w;exact⟨w.st rfl rfl,⟨e,d,c,tt,G,w.put rfl rfl w.o w.t,a,rfl⟩,Be⟩
def aBI(w:PB h j b F)v:Wr h F j 7 (I v) {b with head:=v}:=by obtain⟨e,d,c,tt,G,w,a,rfl⟩:=w;exact⟨w.st rfl rfl,⟨e,d,c,tt,G,w.put rfl rfl w.o w.t,a,rfl⟩,Be⟩
def vR(w:PB h j b F)v:Wr h F j 8 (I v) {b with Fx:=v}:=by obtain⟨e,d,c,tt,G,w,a,rfl⟩:=w;exact⟨w.st rfl rfl,⟨e,d,c,tt,G,w.put rfl rfl w.o w.t,a,rfl⟩,Be⟩
def ML(w:PB h j b F)(v:Bool):Wr h F j 14 (zu v) {b with fs:=v}:=by obtain⟨e,d,c,tt,G,w,a,rfl⟩:=w;exact⟨w.st rfl rfl,⟨e,d,c,tt,G,w.put rfl rfl w.o w.t,a,rfl⟩,Be⟩
def aBJ(w:PB h j b F)(v:Bool):Wr h F j 17 (zu v) {b with skip:=v}:=by obtain⟨e,d,c,tt,G,w,a,rfl⟩:=w;exact⟨w.st rfl rfl,⟨e,d,c,tt,G,w.put rfl rfl w.o w.t,a,rfl⟩,Be⟩
def aUZ(w:PB h j b F)v:Wr h F j 18 (I v) {b with sw:=v}:=by obtain⟨e,d,c,tt,G,w,a,rfl⟩:=w;exact⟨w.st rfl rfl,⟨e,d,c,tt,G,w.put rfl rfl w.o w.t,a,rfl⟩,Be⟩
def aKS(w:PB h j b F){v:Ad}{l:List Int}(a:Wl l v):Wr h F j 6 v {b with tm:=l}:=by obtain⟨e,d,c,tt,G,w,f,rfl⟩:=w;exact⟨w.st rfl a.1.cells,⟨e,d,c,v,G,w.fQ a,f,rfl⟩,Be⟩
end
def Qd(c:UInt8):Bool:=decide ((9<=c.toNat/\c.toNat<=13)\/c.toNat=32)
def wf:Aj->Aj->List Aj
 |a,[]=>if a=[] then[] else[a]
 |a,c::r=>if Qd c then(if a=[] then wf [] r else a::wf [] r) else wf (a++[c]) r
def vS:Bool->Aj->Nat
 |_,[]=>0
 |w,c::r=>(if w&& !Qd c then 1 else 0)+vS (Qd c) r
def zd(b:Bool):Int:=if b then 1 else 0
def X0:∀{s cur:Aj},(wf cur s).length=(if cur=[] then 0 else 1)+vS (decide (cur=[])) s
 |[],cur=>by unfold wf vS;split<;>simp_all
 |c::r,cur=>by
  unfold wf vS;by_cases b:Qd c=z8
  .by_cases a:cur=[];.simp[b,a,X0]
   .simp[b,a,X0];omega
  .let d:Qd c=zy:=zv b
   by_cases a:cur=[];.simp[d,a,X0]
   .simp[d,a,X0]
def ze:∀{s cur:Aj},(wf cur s).length<=s.length+1
 |[],cur=>by rw[wf];split<;>simp
 |c::r,cur=>by rw[wf];let h1:=ze (s:=r) (cur:=[]);let h2:=ze (s:=r) (cur:=cur++[c]);grind
def zf{c:UInt8}(k:Option Nat)(d:k=none){h:Ak}:∃v,AB (.X7 256 1) [.CO Iu,.int .u8 c.toNat]=zw v/\A8 h k v=zw (.int .u8 (zd (Qd c))):=by
 subst d;let a:∀n:Nat,n<256->Iu[n]?=zw (.int .u8 (zd (decide ((9<=n/\n<=13)\/n=32)))):=by intro n b;let i:∀n,n<256->PL[n]?=zw (zd (decide ((9<=n/\n<=13)\/n=32))):=Bi;rw[Iu,Cp,i n b];rfl
 let f:=c.toNat_lt;let e:N6 c.toNat 256=zw c.toNat:=by rw[N6];rw[Ae Ab];rfl
 exact⟨.CO (Iu.drop (c.toNat*1)),by simp[AB,e,aR],by rw[dE,Fg,CF,GP,BE,a _ f];rfl⟩
def aKT{s c:Nat}(e:s<128)(f:c<128):∃n:Nat,n<128/\AB (yg .or) [.int .u8 s,.int .u8 c]=zw (.int .u8 n):=by
 let a:∀s:Nat,s<128->∀c:Nat,c<128->(match AB (.int .or) [.int .u8 s,.int .u8 c] with|zw (.int .u8 n)=>decide (0<=n/\n<128)|_=>zy)=z8:=Bi;let b:=a s e c f;split at b;next n d=>have:=D4 b;exact⟨n.toNat,Ab,by rw[d,Ft this.1]⟩
 .cases b
def aKU(w i:Bool):∃v,AB (.un .xor) [I (zd i)]=zw v/\AB (yg .and) [I (zd w),v]=zw (I (if w&& !i then 1 else 0)):=by cases w<;>cases i<;>exact⟨_,rfl,rfl⟩
def aKV(i:Bool):IntKind.i64.wrap (zd i)=zd i:=by cases i<;>rfl
def zg{U:Type}(l:List U)(x y:U)(r:List U){k:Nat}(hk:k=l.length):(l++y::r).take k++[x]++(l++y::r).drop (k+1)=l++x::r:=by simp_all
def aPG(s:Aj)(hs:s.length<=1000000)(ha:∀c∈s,c.toNat<128)(h:Ak):BF cx 400 [yu s] h (.sl 1 ((wf [] s).map BY)) (h++[.CV]):=by
 have cR:=hK;let P:=ze (s:=s) (cur:=[]);obtain⟨N,Z⟩:∃N,N=(wf [] s).length:=⟨_,rfl⟩;rw[Ac,uN,aNG];refine DD (i:=0) (λz:Nat×Bool×Nat×Nat=>[I z.1,I (zd z.2.1),.int .u8 z.2.2.1,I z.2.2.2]) (λz T=>T=h/\z.2.2.2<=s.length/\z.2.2.1<128/\z.1+vS z.2.1 (s.drop z.2.2.2)=vS z8 s) (λz=>s.length-z.2.2.2) (λz T=>T=h/\z.2.2.1<128/\z.1=N) (0,z8,0,0) rfl ⟨rfl,AZ _,AR,AF⟩ ?_ ?_
 .rintro⟨n,w,bits,i⟩ T ⟨rfl,hi,hb,hn⟩;simp only at hi hb hn;obtain U|EC:=AQ i s.length
  .let⟨bits',TM,y⟩:=aKT hb (ha _ (AV U));let⟨v,J,H⟩:=zf (c:=s[i]) none rfl (h:=T);let⟨v2,p,d⟩:=aKU w (Qd s[i]);have O:vS z8 s<=s.length+1:=by have:=X0 (s:=s) (cur:=[]);simp at this;omega
   rw[AI U,vS] at hn;let u:=QK (a:=(n:Int)) (b:=if w&& !Qd s[i] then 1 else 0) (by split<;>omega) (by split<;>omega);let t:(n+if(w&& !Qd s[i])=z8 then 1 else 0)=((n+if(w&& !Qd s[i])=z8 then 1 else 0:Nat):Int):=by split<;>simp
   simp only[abS,(Ab:(i:Int)<(s.length:Int)),Gt U,y,J,H,Tk,aKV,p,d,u,t,BB i];exact .next (_,Qd s[i],bits',i+1) rfl ⟨rfl,U,TM,DO⟩ DO
  .simp only[abS,(Ab:¬i<(s.length:Int))];exact .HT (n,w,bits,i) rfl ⟨rfl,hb,by rw[AU EC,vS] at hn;have:=X0 (s:=s) (cur:=[]);simp at this;simp only;omega⟩
 rintro⟨n,w,bits,i⟩ T ⟨rfl,hb,hn⟩;simp only at hb hn;subst hn;let y:Vk T 1 16 [S []] (I n) (I n)=zw (T++[z1 (z4 n [S []]).flatten],.CK T.length 0 n 1):=by simp only[Vk];rw[Ae ⟨Ab,Ab,ES,rfl⟩];simp
 let J:(z4 n [S []]).flatten=z4 n (S []):=by
  clear y Z P;induction n with
  |zero=>rfl
  |succ n ih=>rw[MN,Dk,ih];rfl
 rw[J] at y;let H:¬128<=(bits:Int):=Ab;simp only[abS,H];refine ij y ?_;refine DD (i:=2) (λi:Nat=>[I i]) (λi Y=>Y=T++[z1 (z4 n (S []))]/\i<=s.length/\wf [] s=wf [] (s.drop i)) (λi=>s.length-i) (λi Y=>Y=T++[z1 (z4 n (S []))]/\i<=s.length/\wf [] s=wf [] (s.drop i)/\∀hi:i<s.length,Qd s[i]=zy) 0 rfl ⟨rfl,AZ _,rfl⟩ ?_ ?_
 .rintro i Y ⟨rfl,hi,V⟩;obtain U|EC:=AQ i s.length
  .let⟨v,p,d⟩:=zf (c:=s[i]) none rfl (h:=T++[.cells (List.replicate n (S []))]);cases X:Qd s[i]<;>rw[X] at d
   .simp[(Ab:(i:Int)<(s.length:Int)),Gt U,p,d,zd,Cy,BR];exact .HT i rfl ⟨rfl,hi,V,λ_=>X⟩
   .simp[(Ab:(i:Int)<(s.length:Int)),Gt U,p,d,zd,(AR:(1:Int)≠0),BR,BB i];rw[AI U,wf,X] at V;exact .next (i+1) rfl ⟨rfl,U,by simpa using V⟩ Ab
  .simp only[abS,(Ab:¬i<(s.length:Int))];exact .HT i rfl ⟨rfl,hi,V,λh=>absurd h Ab⟩
 rintro i0 Y ⟨rfl,pj,C,ġ⟩;simp only[By];refine DD (i:=4) (λz:List Aj×Nat×Nat=>[I z.1.length,I z.2.1,I z.2.2]) (λz Y=>Y=T++[z1 (z.1.map y3++z4 (n-z.1.length) (S []))]/\z.2.1<=z.2.2/\z.2.2<=s.length/\z.1++wf ((s.take z.2.2).drop z.2.1) (s.drop z.2.2)=wf [] s/\(z.2.1=z.2.2->∀hi:z.2.2<s.length,Qd s[z.2.2]=zy)) (λz=>s.length-z.2.2)
  (λz Y=>Y=T++[z1 (z.1.map y3++z4 (n-z.1.length) (S []))]/\z.2.1<=s.length/\z.1++wf (s.drop z.2.1) []=wf [] s) ([],i0,i0) rfl ⟨AF,Af _,pj,by simp[C,Ru],λ_=>ġ⟩ ?_ ?_
 .rintro⟨R,f,i⟩ Y ⟨rfl,hf,hi,V,hz⟩;simp only at hf hi V hz;have gq:R.length<=n:=by rw[Z,<-V,As];omega
  obtain U|EC:=AQ i s.length
  .let⟨v,p,d⟩:=zf (c:=s[i]) none rfl (h:=T++[.cells (R.map Ad.str++List.replicate (n-R.length) (S []))]);rw[AI U] at V;cases X:Qd s[i]
   .rw[X] at d;simp[(Ab:(i:Int)<(s.length:Int)),Gt U,p,d,zd,Cy,BB i];rw[wf,X] at V;refine .next (R,f,i+1) rfl ⟨rfl,DO,U,?_,λe=>by simp only at e;omega⟩ DO
    simp only
    rw[dI hf U];simpa using V
   .rw[X] at d;let aFx:f<i:=by
     rcases AQ f i with h|h
     .exact h
     .have:=hz Ab U;rw[X] at this;cases this
    let aU0:(s.take i).drop f≠[]:=by intro e;have:=Cx List.length e;simp at this;omega
    rw[wf,X] at V;simp only[BV,aU0,DW] at V;let m:R.length<n:=by rw[Z,<-V];simp
    let u:AB (.EM 1) [.CK T.length 0 n 1,I (R.length:Int)]=zw (Pt T.length R.length):=by have:=FN (id:=T.length) (z:=1) (n:=n) (k:= .i64) m;rwa [GP] at this
    let hcl:(R.map y3++z4 (n-R.length) (S [])).length=n:=ES;let t:Cv (T++[.cells (R.map y3++z4 (n-R.length) (S []))]) 1 (Pt T.length R.length) (.str ((s.take i).drop f))=zw (T++[.cells ((R++[(s.take i).drop f]).map y3++z4 (n-(R++[(s.take i).drop f]).length) (S []))]):=by let F:(T++[y2 (R.map y3++z4 (n-R.length) (S []))])[T.length]?=zw (.cells (R.map y3++z4 (n-R.length) (S []))):=AF;simp only[Cv,F,Tm,A5];rw[Ae ⟨trivial,by rw[hcl];omega⟩,BO _ _ (Af _),Dy];let E:n-R.length=(n-(R.length+1))+1:=Ab;let D:(R.map y3).length=R.length:=Ao ..;simp only[NC,BJ,Bn,C1,As,A5];rw[E,MN,zg _ _ _ _ D.symm];simp
    simp only[abS,(Ab:(i:Int)<(s.length:Int)),Gt U,p,d,zd,↓reduceIte,Jq,Og (z:=0) (k:= .i64) (l:= .i64) (Ab:f<=i) hi,u,t,BB R.length,BB i];refine DD (i:=6) (λj:Nat=>[I (j:Int)]) (λj Y=>Y=T++[.cells ((R++[(s.take i).drop f]).map Ad.str++List.replicate (n-(R++[(s.take i).drop f]).length) (S []))]/\i<j/\j<=s.length/\wf [] (s.drop (i+1))=wf [] (s.drop j)) (λj=>s.length-j) (λj Y=>Y=T++[.cells ((R++[(s.take i).drop f]).map Ad.str++List.replicate (n-(R++[(s.take i).drop f]).length) (S []))]/\i<j/\j<=s.length/\wf [] (s.drop (i+1))=wf [] (s.drop j)/\∀hj:j<s.length,Qd s[j]=false) (i+1) rfl ⟨rfl,Ab,U,rfl⟩ ?_ ?_
    .rintro j Y ⟨rfl,o,hj,jx⟩;rcases AQ j s.length with kQ|M
     .let⟨v,L,A⟩:=zf (c:=s[j]) none rfl (h:=T++[.cells ((R++[(s.take i).drop f]).map Ad.str++List.replicate (n-(R++[(s.take i).drop f]).length) (S []))]);cases g:Qd s[j] with
      |true=>rw[g] at A;simp only[abS,(Ab:(j:Int)<(s.length:Int)),Gt kQ,L,A,zd,↓reduceIte,(AR:(1:Int)≠0),BR,BB j];rw[AI kQ,wf,g] at jx;exact .next (j+1) rfl ⟨rfl,Ab,kQ,by simpa using jx⟩ Ab
      |false=>rw[g] at A;simp only[abS,(Ab:(j:Int)<(s.length:Int)),Gt kQ,L,A,zd,Cy,↓reduceIte,BR];exact .HT j rfl ⟨rfl,o,hj,jx,λ_=>g⟩
     .simp only[abS,(Ab:¬(j:Int)<(s.length:Int))];exact .HT j rfl ⟨rfl,o,hj,jx,λh=>absurd h Ab⟩
    .rintro j Y ⟨rfl,o,hj,jx,B⟩;simp only[By,↓reduceIte];refine .next (R++[(s.take i).drop f],j,j) AF ⟨rfl,Af _,hj,?_,λ_=>B⟩ DO
     simp only[Ru];rw[<-jx,AO];exact V
  .simp only[abS,(Ab:¬i<(s.length:Int))];let hie:i=s.length:=Ab;refine .HT (R,f,i) rfl ⟨rfl,DO,?_⟩;simp only
   rwa[AU EC,hie,Bx] at V
 .rintro⟨R,f,i⟩ Y ⟨rfl,hf,V⟩;simp only at hf V;let K:∀l:List Aj,l=wf [] s->LH (T++[z1 (l.map y3)]) (.CK T.length 0 n 1)=zw (T++[.CV],.sl 1 ((wf [] s).map BY)):=by
   rintro l rfl;let hr:∀r∈(wf [] s).map BY,r.length=1:=λr hr=>by obtain⟨w,_,rfl⟩:=Bv.1 hr;rfl
   let Q:((wf [] s).map BY).flatten=(wf [] s).map y3:=by
    generalize wf [] s=q;induction q with
    |nil=>rfl
    |cons x q ih=>simp[BY,ih]
   have:=Kn (h:=T++[.cells ((wf [] s).map Ad.str)]) (id:=T.length) hr (by rw[Q];simp);rw[Ao,<-Z] at this;rw[this,BO _ _ (Af _),Dy];rfl
  obtain U|EC:=AQ f s.length
  .let hne:s.drop f≠[]:=by intro e;have:=Cx List.length e;simp at this;omega
   rw[wf,Aa hne] at V;let m:n=R.length+1:=by rw[Z,<-V];simp
   let u:AB (.EM 1) [.CK T.length 0 n 1,I R.length]=zw (Pt T.length R.length):=by have:=FN (id:=T.length) (z:=1) (n:=n) (k:= .i64) (Ab:R.length<n);rwa [GP] at this
   let t:Cv (T++[z1 (R.map y3++z4 (n-R.length) (S []))]) 1 (Pt T.length R.length) (yu (s.drop f))=zw (T++[z1 ((R++[s.drop f]).map y3)]):=by let F:(T++[y2 (R.map y3++z4 (n-R.length) (S []))])[T.length]?=zw (z1 (R.map y3++z4 (n-R.length) (S []))):=AF;let E:n-R.length=1:=Ab;let D:(R.map y3).length=R.length:=Ao ..;simp only[Cv,F,Tm,A5];rw[Ae ⟨trivial,ES⟩,BO _ _ (Af _),Dy,E,show z4 1 (S [])=S []::[] from rfl,zg _ _ _ _ D.symm];simp
   simp only[abS,(Ab:(f:Int)<(s.length:Int)),Xw (z:=0) (k:= .i64) (Ab:f<=s.length),u,t,K _ V]
  .rw[AU EC,wf] at V;simp[BV,Br] at V;let m:n-R.length=0:=by rw[Z,<-V];omega
   let G:=K _ V;simp only[m,List.replicate_zero,Br,abS,(Ab:¬(f:Int)<(s.length:Int)),G]
section
variable{h h':Ak}{q:Nat}{b b':BS}{F:Nat->Prop}{n o a:Nat}{t:DE}{j:Ad}
def aPH(lo c r)(h:Ak):BF cx 404 [.int y4 r,.CO [.int y4 lo],.CO [.int y4 c]] h (zu (decide (lo<=r/\r<=c))) h:=by simp only[Ac,aJ,By];refine⟨λa=>by simp[a],λa=>by simp[a]⟩
def YM(p:Int×Int):List Ad:=[z5 (z7 404) [] [.CO [.int y4 p.1],.CO [.int y4 p.2]]]
def aPI{L:List (Int×Int)}(g:L.length<=1000)r(h:Ak):BF cx 403 [.int y4 r,.CO [.sl 1 (L.map YM)]] h (zu (L.any λp=>decide (p.1<=r/\r<=p.2))) h:=by
 let m:AY 1 (L.map YM) (.sl 1 (L.map YM)):= .mk;let e:=AY.CQ m;simp only[Ac,uO,By,e];refine Bm (λn:Nat=>[ff,I n]) (λn l=>n<=L.length/\l=h/\L.any (λp=>decide (p.1<=r/\r<=p.2))=(L.drop n).any λp=>decide (p.1<=r/\r<=p.2)) (λn=>L.length-n) 0 rfl ⟨AZ _,rfl,rfl⟩ ?_;rintro n l ⟨hn,rfl,i⟩;obtain a|EC:=AQ n L.length
 .let c:=AY.BL (k:= y8) m a;let f:∀x y:Int,C6 (z5 (z7 404) [] [.CO [.int y4 x],.CO [.int y4 y]]) [.int y4 r]=zw (404,[.int y4 r,.CO [.int y4 x],.CO [.int y4 y]]):=λ_ _=>rfl;let d:=aPH L[n].1 L[n].2 r l;rw[AI a,Iy] at i;rw[YM] at c;simp only[abS,(Ab:n<(L.length:Int)),c,f,d,BB n];refine⟨λj=>?_,λj=>?_⟩;.rw[i];simp[j]
  .rw[Ag j,E0] at i;exact xx (n+1) rfl ⟨a,rfl,i⟩ Ab
 .rw[AU EC] at i;simp only[abS,(Ab:¬n<(L.length:Int)),i,RK]
def aU2 r:JY cx 227 [.int y4 r] (zu (decide (gD r))):=by
 let d:∀(lo i) (h:Ak),BF cx 352 [.int y4 lo,.int y4 i] h (z5 (z7 404) [] [.CO [.int y4 lo],.CO [.int y4 i]]) h:=λlo i h=>by simp[Wf]
 let g:∀(v:Ad) (h:Ak),v.cells=[v]->BF cx 351 [v] h (z5 (z7 403) [] [.CO [v]]) h:=λv h k=>by simp[aD,k]
 let e:=aPI (L:=[(9,10),(12,13),(32,32)]) AR r [];let c:AB (.Df 1) [z5 (z7 404) [] [.CO [.int y4 9],.CO [.int y4 10]],z5 (z7 404) [] [.CO [.int y4 12],.CO [.int y4 13]],z5 (z7 404) [] [.CO [.int y4 32],.CO [.int y4 32]]]=zw (.sl 1 ([(9,10),(12,13),(32,32)].map YM)):=rfl;let f:∀v:Ad,C6 (z5 (z7 403) [] [v]) [.int y4 r]=zw (403,[.int y4 r,v]):=λ_=>rfl;let j:=g (.sl 1 ([(9,10),(12,13),(32,32)].map YM)) [] rfl;let l:decide (gD r)=([(9,10),(12,13),(32,32)].any λp=>decide (p.1<=r/\r<=p.2)):=by
  let c:gD r↔((9<=r/\r<=10)\/(12<=r/\r<=13)\/(32<=r/\r<=32)):=by rw[gD];omega
  simp only[Iy,RK,Np,<-x8,DG];exact c
 simp only[l,Mh,ZV,By,d 9 10 [],d 12 13 [],d 32 32 [],c,j,f,e]
structure Mm(l:Aj)(ws:List Aj):Prop where
 len:l.length<=1000000
 asc:∀c∈l,c.toNat<128
 wf:wf [] l=ws
section
variable{l:Aj}{b:List Aj}
def Pb(h:(decide (l.length<=1000000)&&l.all (λc=>decide (c.toNat<128))&&decide (wf [] l=b))=z8):Mm l b:=by simp[Bs,Cj,EE] at h;exact⟨h.1.1,h.1.2,h.2⟩
section
variable(w:Mm l b)
def Mm.few:b.length<=1000001:=by have:=ze (s:=l) (cur:=[]);have:=w.len;rw[<-w.wf];omega
def aBK(h:Ak):BF cx 359 [yu l] h (.sl 1 (b.map BY)) (h++[.CV]):=by let c:=aPG l w.len w.asc h;rw[w.wf] at c;simp[tU,c]
def qy(s:Aj):JY cx 237 [yu s,yu l] (zu (decide (s∈b))):=by let c:=aBK w [];let d:=aFr (Cc (ws:=b)) (by have:=w.few;omega) s [DH.CV];simp[Mh,ZY,c,d]
def Gc(t:DE)(j:Ad)(h:Ak):BF cx 106 [.agg (Bc t j),yu l] h (zu (decide (t.st b))) h:=by
 simp[pU,(qy w t.name).BG rfl rfl];refine⟨λa=>?_,λa=>?_⟩;.congr 2;rw[DE.st];simp[a]
 .unfold DE.st;simp[a]
def gO(t:DE)(j:Ad)(h:Ak):BF cx 109 [.agg (Bc t j),yu l] h (zu (decide (t.en b))) h:=by
 simp[pW,(qy w t.name).BG rfl rfl];refine⟨λa=>?_,λa=>?_⟩;.congr 2;rw[DE.en];simp[a]
 .unfold DE.en;simp[a]
def gP(t:DE)(j:Ad)(h:Ak):BF cx 105 [.agg (Bc t j),yu l] h (zu (decide (t.Xb b))) h:=by
 simp[pT,(qy w t.name).BG rfl rfl];refine⟨λa=>?_,λa=>?_⟩;.congr 2;unfold DE.Xb;simp[a]
 .unfold DE.Xb;simp[a]
end
end
def UY(t:DE)(j:Ad)(h:Ak):BF cx 99 [.agg (Bc t j)] h (zu (decide t.DQ)) h:=by
 simp[o_,(aU2 t.r).BG rfl rfl];refine⟨λa=>?_,λa=>?_⟩;.congr 2;rw[DE.DQ];simp[a]
 .unfold DE.DQ;simp[a]
def Ln(w:PB h q b F)(t:DE)(j:Ad):BF cx 97 [Pt q 0,.agg (Bc t j)] h (zu (decide t.ok)) h:=by
 let⟨x,c⟩:=w.N9;simp only[Ac,ov,abS,c];refine⟨λa=>?_,λa=>?_⟩;.congr 2;unfold DE.ok;simp[a]
 .unfold DE.ok;simp[a]
def aBL(nm:Aj)(h:Ak):BF cx 107 [yu nm] h (.agg (Bc (Lj nm) .slnil)) h:=by simp[pV,AP,Lj]
section
variable(w:PB h q b F)
def qz m:GB h F 101 [Pt q 0,I m] tt q (b.again m).1:=let⟨d,a,c⟩:=Hk w m;⟨_,_,by simp[ZI,d],a,c⟩
def UZ(g:Gz b n o a):BF cx 116 [Pt q 0] h (zu (decide b.Pv)) h:=by simp[p9,aKR w g AE];rfl
def q_(g:Gz b (n+4) o a)(k:t.Sm)(p:AK t.Al j):GB h F 108 [Pt q 0,.agg (Bc t j)] (zm []) q (b.I2 t):=let⟨h1,i,f,l,d⟩:=Gb w g k p;let⟨r,s,m,e,c⟩:=Rq l (g.C3 k);⟨r,s,by simp[ZJ,f,m],e,d.trans c⟩
end
end
def vT:Mm a3e eHB:=Pb Bi
def gQ:Mm a3O gE:=Pb Bi
def mM:Mm a39 UT:=Pb Bi
def aBM:Mm a4y eNo:=Pb Bi
def gR:Mm a23 Ou:=Pb Bi
def rh:Mm a3A qv:=Pb Bi
def zh:Mm a2N Ā:=Pb Bi
def aBN:Mm a3H sHN:=Pb Bi
def TJ:Mm a2w Eu:=Pb Bi
def aBO:Mm a2V sT1:=Pb Bi
def aBP:Mm a4F sTd:=Pb Bi
def J7:Mm a2y [a2y]:=Pb Bi
def KY:Mm a2I [a2I]:=Pb Bi
def X1:Mm a2S [a2S]:=Pb Bi
def U4:Mm a2Z [a2Z]:=Pb Bi
def L6:Mm a2J [a2J]:=Pb Bi
def dv:Mm a2B [a2B]:=Pb Bi
def WD:Mm a2D [a2D]:=Pb Bi
def zi:Mm a4h [a4h]:=Pb Bi
def aBQ:Mm [116,114] [[116,114]]:=Pb Bi
def Hl:Mm a2z [a2z]:=Pb Bi
section
variable{h h':Ak}{bi:Nat}{b b':BS}{F:Nat->Prop}{n o a:Nat}{t:DE}{av:Ad}
section
variable(w:PB h bi b F)
def aPJ(g:Gz b (n+5) o a)(E:t.Sm)(J:AK t.Al av):GB h F 25 [Pt bi 0,.agg (Bc t av)] (zu (b.FG t).2) bi (b.FG t).1:=by
 let L:=w.Cg;rw[BS.FG];by_cases u:¬t.ok;.rw[Ae u];let c:=Ln w t av;rw[Ag u] at c;exact⟨_,_,by simp[QQ,c],w,.refl⟩
 rw[Aa u];let c:=Ln w t av;rw[Ah (CI.1 u)] at c;by_cases e:t.k=1;.rw[Ae e];exact⟨_,_,by simp[QQ,c,Aw e],w,.refl⟩
 rw[Aa e];by_cases r:t.DQ;.rw[Ae r];let d:=UY t av h;rw[Ah r] at d;exact⟨_,_,by simp[QQ,c,d,e],w,.refl⟩
 rw[Aa r];let d:=UY t av h;rw[Ag r] at d;by_cases q:t.Xb eHB;.rw[Ae q];let f:=gP vT t av h;rw[Ah q] at f;exact⟨_,_,by simp[QQ,c,d,f,e],w,.refl⟩
 rw[Aa q];let f:=gP vT t av h;rw[Ag q] at f;by_cases m:t.k=4;.rw[Ae m];let⟨G,y,i,B,j⟩:=N2 (s:=t.data) w (g.dn (n':=n+1) Ab) (by have:=E.data;omega) b.Cd;exact⟨_,_,by simp[QQ,c,d,f,e,Aw m,i,L],B,j⟩
 rw[Aa m];by_cases p:t.st [a2y];.rw[Ae p];let l:=Gc J7 t av h;rw[Ah p] at l;let⟨G,y,i,B,j⟩:=Gb w (g.dn (n':=n+4) Ab) E J;let⟨z,x,v⟩:=Hk B 3;exact⟨_,_,by simp[QQ,c,d,f,l,e,m,i,z],x,j.trans v⟩
 rw[Aa p];let l:=Gc J7 t av h;rw[Ag p] at l;let C:=aBL a2y h;let⟨G,y,i,B,j⟩:=Gb (t:=Lj a2y) w (g.dn (n':=n+4) Ab) (HM AR) (.inr ⟨rfl,rfl⟩);let⟨h2,F2,H,x,v⟩:=qz B 3;rw[Lj] at C i;exact⟨_,_,by simp[QQ,c,d,f,l,e,m,C,i,H,BS.again],x,j.trans v⟩
def aPK(g:Gz b (n+1000) o a)(Q:t.Sm)(R:AK t.Al av)(H:t.st [a2y]->GB h F 30 [Pt bi 0,.agg (Bc t av)] ff bi (b.Hq t)):GB h F 26 [Pt bi 0,.agg (Bc t av)] (zu (b.FH t).2) bi (b.FH t).1:=by
 rw[BS.FH];by_cases x:¬t.ok;.rw[Ae x];let c:=Ln w t av;rw[Ag x] at c;exact⟨_,_,by simp[Pm,c],w,.refl⟩
 rw[Aa x];let c:=Ln w t av;rw[Ah (CI.1 x)] at c;by_cases e:t.k=1;.rw[Ae e];exact⟨_,_,by simp[Pm,c,Aw e],w,.refl⟩
 rw[Aa e];by_cases v:t.DQ;.rw[Ae v];let d:=UY t av h;rw[Ah v] at d;exact⟨_,_,by simp[Pm,c,d,e],w,.refl⟩
 rw[Aa v];let d:=UY t av h;rw[Ag v] at d;by_cases u:t.Xb eHB;.rw[Ae u];let i:=gP vT t av h;rw[Ah u] at i;exact⟨_,_,by simp[Pm,c,d,i,e],w,.refl⟩
 rw[Aa u];let i:=gP vT t av h;rw[Ag u] at i;by_cases m:t.k=4;.rw[Ae m];let⟨M,D,f,L,j⟩:=N2 (s:=t.data) w (g.dn (n':=n+1) Ab) (by have:=Q.data;omega) 0;exact⟨_,_,by simp[Pm,c,d,i,e,Aw m,f],L,j⟩
 rw[Aa m];by_cases q:t.st [a2y];.rw[Ae q];let l:=Gc J7 t av h;rw[Ah q] at l;let⟨M,D,f,L,j⟩:=H q;exact⟨_,_,by simp[Pm,c,d,i,l,e,m,f],L,j⟩
 rw[Aa q];let l:=Gc J7 t av h;rw[Ag q] at l;by_cases r:t.st [a2I];.rw[Ae r];let p:=Gc KY t av h;rw[Ah r] at p;let⟨M,D,f,L,j⟩:=Gb w (g.dn (n':=n+4) Ab) Q R;let⟨C,B,z⟩:=aBI L (b.Lh 1);let⟨E,A,y⟩:=Hk B 4;exact⟨_,_,by simp[Pm,c,d,i,l,p,e,m,f,C,E],A,(j.trans z).trans y⟩
 rw[Aa r];let p:=Gc KY t av h;rw[Ag r] at p;let O:=aBL a2I h;let⟨M,D,f,L,j⟩:=Gb (t:=Lj a2I) w (g.dn (n':=n+4) Ab) (HM AR) (.inr ⟨rfl,rfl⟩);let⟨C,B,z⟩:=aBI L (b.Lh 1);let⟨I,J,G,A,y⟩:=qz B 4;rw[Lj] at O f;exact⟨_,_,by simp[Pm,c,d,i,l,p,e,m,O,f,C,G,BS.again],A,(j.trans z).trans y⟩
def vU(g:Gz b (n+1004) o a)(ht:t.Sm)(hv:AK t.Al av)(Z:t.st [a2y]->GB h F 30 [Pt bi 0,.agg (Bc t av)] ff bi (b.Hq t)):GB h F 27 [Pt bi 0,.agg (Bc t av)] (zu (b.CM t).2) bi (b.CM t).1:=by
 rw[BS.CM];by_cases L:¬t.ok;.rw[Ae L];let e:=Ln w t av;rw[Ag L] at e;exact⟨_,_,by simp[HI,e],w,.refl⟩
 rw[Aa L];let e:=Ln w t av;rw[Ah (CI.1 L)] at e;by_cases i:t.k=1;.rw[Ae i];exact⟨_,_,by simp[HI,e,Aw i],w,.refl⟩
 rw[Aa i];by_cases K:t.st [a2I];.rw[Ae K];let f:=Gc KY t av h;rw[Ah K] at f;exact⟨_,_,by simp[HI,e,f,i],w,.refl⟩
 rw[Aa K];let f:=Gc KY t av h;rw[Ag K] at f;by_cases J:t.Xb gE;.rw[Ae J];let j:=gP gQ t av h;rw[Ah J] at j;exact⟨_,_,by simp[HI,e,f,j,i],w,.refl⟩
 rw[Aa J];let j:=gP gQ t av h;rw[Ag J] at j;by_cases H:t.DQ;.rw[Ae H];let l:=UY t av h;rw[Ah H] at l;let⟨h1,y,d,w1,c⟩:=gK w (g.dn (n':=n+5) Ab) ht.r;exact⟨_,_,by simp[HI,e,f,j,l,i,d],w1,c⟩
 rw[Aa H];let l:=UY t av h;rw[Ag H] at l;by_cases p:t.k=4;.rw[Ae p];let⟨h1,y,d,w1,c⟩:=N2 (s:=t.data) w (g.dn (n':=n+1) Ab) (by have:=ht.data;omega) 0;exact⟨_,_,by simp[HI,e,f,j,l,i,Aw p,d],w1,c⟩
 rw[Aa p];by_cases C:t.st [a2y];.rw[Ae C];let m:=Gc J7 t av h;rw[Ah C] at m;let⟨h1,y,d,w1,c⟩:=Z C;exact⟨_,_,by simp[HI,e,f,j,l,m,i,p,d],w1,c⟩
 rw[Aa C];let m:=Gc J7 t av h;rw[Ag C] at m;by_cases G:t.st Ou;.rw[Ae G];let q:=Gc gR t av h;rw[Ah G] at q;let⟨h1,y,d,w1,c⟩:=q_ w (g.dn (n':=n+4) Ab) ht hv;exact⟨_,_,by simp[HI,e,f,j,l,m,q,i,p,d],w1,c⟩
 rw[Aa G];let q:=Gc gR t av h;rw[Ag G] at q;by_cases E:t.st [a2S];.rw[Ae E];let v:=Gc X1 t av h;rw[Ah E] at v;let⟨h1,y,d,w1,c⟩:=gL w (g.dn (n':=n+4) Ab) ht hv 2;exact⟨_,_,by simp[HI,e,f,j,l,m,q,v,i,p,d],w1,c⟩
 rw[Aa E];let v:=Gc X1 t av h;rw[Ag E] at v;by_cases D:t.st qv;.rw[Ae D];let z:=Gc rh t av h;rw[Ah D] at z;let⟨h1,y,d,w1,c⟩:=gL w (g.dn (n':=n+4) Ab) ht hv 3;exact⟨_,_,by simp[HI,e,f,j,l,m,q,v,z,i,p,d],w1,c⟩
 rw[Aa D];let z:=Gc rh t av h;rw[Ag D] at z;by_cases Ik:t.st [a2Z];.rw[Ae Ik];let TK:=Gc U4 t av h;rw[Ah Ik] at TK;let⟨h1,y,d,w1,c⟩:=gL w (g.dn (n':=n+4) Ab) ht hv 4;exact⟨_,_,by simp[HI,e,f,j,l,m,q,v,z,TK,i,p,d],w1,c⟩
 rw[Aa Ik];let TK:=Gc U4 t av h;rw[Ag Ik] at TK;by_cases LC:t.st [a2J];.rw[Ae LC];let jZ:=Gc L6 t av h;rw[Ah LC] at jZ;let⟨h1,y,d,w1,c⟩:=Gb w (g.dn (n':=n+4) Ab) ht hv;let⟨M,B,A⟩:=Hk w1 5;exact⟨_,_,by simp[HI,e,f,j,l,m,q,v,z,TK,jZ,i,p,d,M],B,c.trans A⟩
 rw[Aa LC];let jZ:=Gc L6 t av h;rw[Ag LC] at jZ;by_cases Md:t.en [a2I];.rw[Ae Md];let aN:=gO KY t av h;rw[Ah Md] at aN;let⟨h1,y,d,w1,c⟩:=Rq w (g.dn (n':=n) Ab);let⟨M,B,A⟩:=Hk w1 6;exact⟨_,_,by simp[HI,e,f,j,l,m,q,v,z,TK,jZ,aN,i,p,d,M],B,c.trans A⟩
 rw[Aa Md];let aN:=gO KY t av h;rw[Ag Md] at aN;by_cases Ml:t.st [AE]
 .rw[Ae Ml];let zj:=Gc Hl t av h;rw[Ah Ml] at zj;let⟨h1,y,d,w1,c⟩:=Gb w (g.dn (n':=n+4) Ab) ht hv;let g1:=(g.dn (n':=n+2+4) Ab).C3 ht;let⟨h2,F2,r2,B,A⟩:=aBH w1 g1;let⟨W,T,R⟩:=ML B zy;let⟨V,O,Q⟩:=Hk T 18;let⟨tv,Y,N⟩:=O.ltm;let tb:(b.C3 t).tm.length<=900000000:=by have:=g1.rm.tm;omega
  let⟨u,X,hu⟩:=aBl N.1 DO (put (put h2 bi 14 ff) bi 4 (I 18));let e6:=hu.1.zD 18 (by simp only;have:AN=140737488355328:=rfl;omega);let em:AB (.Df 1) [I 18]=zw (.sl 1 [BM 18]):=rfl;let JK:Wl ((b.C3 t).tm++[18]) (.sl 1 (((b.C3 t).tm++[18]).map BM)):= .yC;let⟨U,S,P⟩:=aKS O JK;exact⟨_,_,by simp only[Ac,HI,abS,e,f,j,l,m,q,v,z,TK,jZ,aN,zj,i,p,d,r2,W,V,Y,X,em,e6,U],S,(((c.trans A).trans R).trans Q).trans P⟩
 rw[Aa Ml];let zj:=Gc Hl t av h;rw[Ag Ml] at zj;by_cases Oq:t.en [AE];.rw[Ae Oq];let x:=gO Hl t av h;rw[Ah Oq] at x;let⟨h1,y,d,w1,c⟩:=aKP w (g.dn (n':=n) Ab);exact⟨_,_,by simp[HI,e,f,j,l,m,q,v,z,TK,jZ,aN,zj,x,i,p,d],w1,c⟩
 rw[Aa Oq];let x:=gO Hl t av h;rw[Ag Oq] at x;let⟨h1,y,d,w1,c⟩:=Rq w (g.dn (n':=n) Ab);let⟨h2,F2,r2,B,A⟩:=qz w1 6;exact⟨_,_,by simp[HI,e,f,j,l,m,q,v,z,TK,jZ,aN,zj,x,i,p,d,r2,BS.again],B,c.trans A⟩
def aPM(g:Gz b (n+1004) o a)(M:t.Sm)(L:AK t.Al av)(C:t.st [a2y]->GB h F 30 [Pt bi 0,.agg (Bc t av)] ff bi (b.Hq t)):GB h F 28 [Pt bi 0,.agg (Bc t av)] (zu (b.FI t).2) bi (b.FI t).1:=by
 rw[BS.FI];by_cases B:¬t.ok;.rw[Ae B];let c:=Ln w t av;rw[Ag B] at c;exact⟨_,_,by simp[Ny,c],w,.refl⟩
 rw[Aa B];let c:=Ln w t av;rw[Ah (CI.1 B)] at c;by_cases i:t.k=1;.rw[Ae i];exact⟨_,_,by simp[Ny,c,Aw i],w,.refl⟩
 rw[Aa i];by_cases A:t.st sHN;.rw[Ae A];let f:=Gc aBN t av h;rw[Ah A] at f;exact⟨_,_,by simp[Ny,c,f,i],w,.refl⟩
 rw[Aa A];let f:=Gc aBN t av h;rw[Ag A] at f;by_cases z:t.Xb eNo;.rw[Ae z];let j:=gP aBM t av h;rw[Ah z] at j;exact⟨_,_,by simp[Ny,c,f,j,i],w,.refl⟩
 rw[Aa z];let j:=gP aBM t av h;rw[Ag z] at j;by_cases s:t.st [a2y];.rw[Ae s];let l:=Gc J7 t av h;rw[Ah s] at l;let⟨K,u,e,J,d⟩:=C s;exact⟨_,_,by simp[Ny,c,f,j,l,i,e],J,d⟩
 rw[Aa s];let l:=Gc J7 t av h;rw[Ag s] at l;by_cases y:t.en [a2J];.rw[Ae y];let m:=gO L6 t av h;rw[Ah y] at m;let⟨K,u,e,J,d⟩:=Rq w (g.dn (n':=n) Ab);let⟨G,E,D⟩:=Hk J 4;exact⟨_,_,by simp[Ny,c,f,j,l,m,i,e,G],E,d.trans D⟩
 rw[Aa y];let m:=gO L6 t av h;rw[Ag y] at m;by_cases x:t.DQ;.rw[Ae x];let p:=UY t av h;rw[Ah x] at p;let⟨K,u,e,J,d⟩:=vU w g M L C;exact⟨_,_,by simp[Ny,c,f,j,l,m,p,i,e],J,d⟩
 rw[Aa x];let p:=UY t av h;rw[Ag x] at p;by_cases r:t.k=4;.rw[Ae r];let⟨K,u,e,J,d⟩:=vU w g M L C;exact⟨_,_,by simp[Ny,c,f,j,l,m,p,i,Aw r,e],J,d⟩
 rw[Aa r];by_cases v:t.st Ā;.rw[Ae v];let q:=Gc zh t av h;rw[Ah v] at q;let⟨K,u,e,J,d⟩:=vU w g M L C;exact⟨_,_,by simp[Ny,c,f,j,l,m,p,q,i,r,e],J,d⟩
 rw[Aa v];let q:=Gc zh t av h;rw[Ag v] at q;let⟨K,u,e,J,d⟩:=Rq w (g.dn (n':=n) Ab);let⟨h2,F2,O,E,D⟩:=qz J 4;exact⟨_,_,by simp[Ny,c,f,j,l,m,p,q,i,r,e,O,BS.again],E,d.trans D⟩
end
def aBR(w:PB h bi b F)(o:BA b)(j:BW b (n+4))(a:t.Sm)(l:AK t.Al av):GB h F 57 [Pt bi 0,.agg (Bc t av)] (I (b.Lh 1)) bi (b.C3 t):=by obtain⟨d,e,c,tt,G,w,hc,rfl⟩:=w;let⟨m,k,q,r,i,x⟩:=ô w o j IU l a.Al a.name;exact⟨m,_,r,⟨d,k,c,tt,q,i,by rw[BS.C3];rwa[D9],rfl⟩,x⟩
def rj(w:PB h bi b F)(o:BA b)(j:BW b (n+4))(a:t.Sm)(l:AK t.Al av)s:GB h F 63 [Pt bi 0,.agg (Bc t av),I s] (zm []) bi (b.DM t.name t.Al s):=by obtain⟨d,e,c,tt,G,w,hc,rfl⟩:=w;let⟨m,k,q,r,i,x⟩:=aKn w o j IU l a.Al a.name s;exact⟨m,_,r,⟨d,k,c,tt,q,i,by show Ca (b.D5 t.name t.Al 1).AX c;rwa[D9],rfl⟩,x⟩
def aKW(w:PB h bi b F)(j:BW b n):GB h F 74 [Pt bi 2] (.agg b.pC.row) bi b.Gk:=by obtain⟨d,f,c,tt,G,w,hc,rfl⟩:=w;let⟨l,k,r,i,x⟩:=aFK w j;exact⟨l,_,r,⟨d,k,c,tt,G,i,by let e:b.Gk.AX=b.AX:=(by rw[BS.Gk];split<;>rfl);rwa[e],rfl⟩,x⟩
def aF6(w:PB h bi b F)(i:BW b n):GB h F 72 [Pt bi 3] (zm []) bi {b with AX:=b.AX++[y9]}:=by obtain⟨e,d,c,tt,G,w,l,rfl⟩:=w;let o:=i.AX;let⟨fs,f,m⟩:=l;let⟨u,j,k⟩:=f63 ⟨c,w.vA,m⟩ (by rw[<-f,Ao] at o;omega);exact⟨_,_,j,⟨e,d,u,tt,G,w.KJ,⟨_,by rw[BJ,f];rfl,k⟩,rfl⟩,Be⟩
def ă(w:PB h bi b F)(f:BW b n)x:∃r,GB h F 238 [Pt bi 2,I x] r bi {b with AJ:=Cn x b.AJ}:=by obtain⟨d,e,c,tt,G,w,k,rfl⟩:=w;let ho:=f.AJ;let⟨u,i,j⟩:=aAX w.sO Ab x;exact⟨_,_,_,i,⟨d,u,c,tt,G,w.IB j,k,rfl⟩,Be⟩
def TL(H:BA b)(D:BW b (n+6))(C:t.Sm)(v:t.st Eu):BA (b.CM t).1/\BW (b.CM t).1 n:=by
 let f:=v.1;let g:BW (b.C3 t) (n+2):=Ji (D.le Ab) C.Al C.name;let o:BA (b.C3 t):=aDY H;let B:∀{c:BS} {m:Nat},BA c->BW c m->BA c.Gk/\BW c.Gk m:=λ{c m} h r=>by
  rw[BS.Gk];split;.exact⟨h,r⟩
  .exact⟨⟨h.ok,h.Cd⟩,r.I0 (B8 _ _)⟩
 let en:∀u,¬t.en u:=λu h=>by have:=h.1;omega
 let q:∀u,¬t.Xb u:=λu h=>by have:=h.1;omega
 let F:¬t.st [a2I]:=λh=>by let y:=h.2;let s:=v.2;rw[Ax.1 y] at s;revert s;decide
 let E:¬t.st [a2y]:=λh=>by let y:=h.2;let s:=v.2;rw[Ax.1 y] at s;revert s;decide
 let p:¬t.st [a2J]:=λh=>by let y:=h.2;let s:=v.2;rw[Ax.1 y] at s;revert s;decide
 rw[BS.CM];rw[Aa (show¬¬t.ok by rw[DE.ok];omega),Aa Ab,Aa F,Aa (q _),Aa (show¬t.DQ by rw[DE.DQ];omega),Aa Ab,Aa E];by_cases l:t.st Ou;.rw[Ae l];exact⟨(B o g).1,(B o g).2.le Ab⟩
 rw[Aa l];let i:BW (b.C3 t) n:=g.le Ab;by_cases k:t.st [a2S];.rw[Ae k];exact⟨⟨o.ok,o.Cd⟩,i.eq rfl rfl rfl rfl⟩
 rw[Aa k];by_cases j:t.st qv;.rw[Ae j];exact⟨⟨o.ok,o.Cd⟩,i.eq rfl rfl rfl rfl⟩
 rw[Aa j];by_cases A:t.st [a2Z];.rw[Ae A];exact⟨⟨o.ok,o.Cd⟩,i.eq rfl rfl rfl rfl⟩
 rw[Aa A,Aa p,Aa (en _)];let J:t.st [AE]:=⟨f,by
  let z:∀w∈Eu,w∈Ou\/w∈[a2S]\/w∈qv\/w∈[a2Z]\/w∈[AE]:=AR;obtain h|h|h|h|h:=z _ v.2
  .cases l ⟨f,h⟩
  .cases k ⟨f,h⟩
  .cases j ⟨f,h⟩
  .cases A ⟨f,h⟩
  .exact h⟩
 rw[Ae J];refine⟨⟨o.ok,o.Cd⟩,?_⟩;let d:BW {b.C3 t with AX:=(b.C3 t).AX++[y9]} (n+1):=g.aw AF (λe x=>by
  obtain x|x:=AA.1 x
  .exact .inl x
  .exact .inr (zv x)) ⟨AR,AR,λa G=>by cases G⟩
 exact⟨(d.le Ab).n,(d.le Ab).at_,(d.le Ab).data,(d.le Ab).AJ,(d.le Ab).AX,by have:=d.tm;simp[As,A5] at this⊢;omega,d.DU,d.YD⟩
def aPN(w:PB h bi b F)(ba:BA b)(Y:BW b (n+6))(X:t.Sm)(hv:AK t.Al av)(hs:t.st Eu):GB h F 27 [Pt bi 0,.agg (Bc t av)] (zu (b.CM t).2) bi (b.CM t).1:=by
 let a:=hs.1;let l:=Ln w t av;rw[Ah (show t.ok by rw[DE.ok];omega)] at l;let hd:¬t.st [a2I]:=λh=>by let U:=h.2;let T:=hs.2;rw[Ax.1 U] at T;revert T;decide
 let hx:¬t.st [a2y]:=λh=>by let U:=h.2;let T:=hs.2;rw[Ax.1 U] at T;revert T;decide
 let s:¬t.st [a2J]:=λh=>by let U:=h.2;let T:=hs.2;rw[Ax.1 U] at T;revert T;decide
 let en:∀Z,¬t.en Z:=λZ h=>by have:=h.1;omega
 let D:∀Z,¬t.Xb Z:=λZ h=>by have:=h.1;omega
 let k:=Gc KY t av h;let j:=gP gQ t av h;let i:=UY t av h;let g:=Gc J7 t av h;let e:=Gc gR t av h;let f:=Gc X1 t av h;let m:=Gc rh t av h;let TK:=Gc U4 t av h;let jZ:=Gc L6 t av h;let aN:=gO KY t av h;let zj:=Gc Hl t av h;rw[Ag hd] at k;rw[Ag (D _)] at j;rw[Ag (show¬t.DQ by rw[DE.DQ];omega)] at i;rw[Ag hx] at g;rw[Ag s] at jZ;rw[Ag (en _)] at aN;rw[Bc,a] at l k j i g e f m TK jZ aN zj;rw[BS.CM];rw[Aa (show¬¬t.ok by rw[DE.ok];omega),Aa Ab,Aa hd,Aa (D _),Aa (show¬t.DQ by rw[DE.DQ];omega),Aa Ab,Aa hx];let z:BW (b.C3 t) (n+2):=Ji (Y.le Ab) X.Al X.name;by_cases r:t.st Ou
 .rw[Ae r];rw[Ah r] at e;let⟨U,v,c,V,d⟩:=aBR (n:=n+2) w ba (Y.le Ab) X hv;let⟨T,F2,r2,y,x⟩:=aKW V z;refine⟨_,_,?_,y,d.trans x⟩;let C:BF cx 108 [Pt bi 0,.agg (Bc t av)] h (zm []) T:=by simp[ZJ,c,r2]
  rw[Bc,a] at C;simp[HI,Bc,a,l,k,j,i,g,e,Jq,C]
 rw[Aa r];rw[Ag r] at e;by_cases q:t.st [a2S];.rw[Ae q];rw[Ah q] at f;let⟨U,v,c,V,d⟩:=rj (n:=n+2) w ba (Y.le Ab) X hv 2;exact⟨_,_,by rw[Bc,a] at c;simp[HI,Bc,a,l,k,j,i,g,e,f,Jq,c],V,d⟩
 rw[Aa q];rw[Ag q] at f;by_cases p:t.st qv;.rw[Ae p];rw[Ah p] at m;let⟨U,v,c,V,d⟩:=rj (n:=n+2) w ba (Y.le Ab) X hv 3;exact⟨_,_,by rw[Bc,a] at c;simp[HI,Bc,a,l,k,j,i,g,e,f,m,Jq,c],V,d⟩
 rw[Aa p];rw[Ag p] at m;by_cases Ik:t.st [a2Z];.rw[Ae Ik];rw[Ah Ik] at TK;let⟨U,v,c,V,d⟩:=rj (n:=n+2) w ba (Y.le Ab) X hv 4;exact⟨_,_,by rw[Bc,a] at c;simp[HI,Bc,a,l,k,j,i,g,e,f,m,TK,Jq,c],V,d⟩
 rw[Aa Ik,Aa s,Aa (en _)];rw[Ag Ik] at TK;let Ml:t.st [AE]:=⟨a,by
  let key:∀w∈Eu,w∈Ou\/w∈[a2S]\/w∈qv\/w∈[a2Z]\/w∈[AE]:=AR;obtain h|h|h|h|h:=key _ hs.2
  .cases r ⟨a,h⟩
  .cases q ⟨a,h⟩
  .cases p ⟨a,h⟩
  .cases Ik ⟨a,h⟩
  .exact h⟩
 rw[Ae Ml];rw[Ah Ml] at zj;let⟨U,v,c,V,d⟩:=aBR (n:=n+2) w ba (Y.le Ab) X hv;let⟨T,F2,r2,y,x⟩:=aF6 V z;let⟨N,K,H⟩:=ML y zy;let⟨M,B,G⟩:=Hk K 18;let⟨R,P,A⟩:=B.ltm;let S:(b.C3 t).tm.length<=900000000:=by have:=z.tm;omega
 let⟨u,O,hu⟩:=aBl A.1 DO (put (put T bi 14 ff) bi 4 (I 18));let Q:=hu.1.zD 18 (by simp only;have:AN=140737488355328:=rfl;omega);let em:AB (.Df 1) [I 18]=zw (.sl 1 [BM 18]):=rfl;let JK:Wl ((b.C3 t).tm++[18]) (.sl 1 (((b.C3 t).tm++[18]).map BM)):= .yC;let⟨L,J,E⟩:=aKS B JK;exact⟨_,_,by rw[Bc,a] at c;simp only[Ac,HI,abS,↓reduceIte,Bc,a,l,k,j,i,g,e,f,m,TK,jZ,aN,zj,Jq,c,r2,N,M,P,O,em,Q,L],J,(((d.trans x).trans H).trans G).trans E⟩
def WE(g:Gz b (n+1) o a):BA {b with AJ:=b.AJ++[wt b.head]}/\BW {b with AJ:=b.AJ++[wt b.head]} n:=
 ⟨⟨g.ok.ok,g.ok.Cd⟩,g.rm.aAx AF (λj c=>zv c) (AR:(a2I:Aj).length<=1000)⟩
def aBS(g:Gz b (n+7) o a)(f:t.Sm)(h:t.st Eu):BA (b.Js t).1/\BW (b.Js t).1 n:=by let⟨i,d⟩:=WE g;let⟨e,c⟩:=TL i d f h;rw[BS.Js];exact⟨⟨e.ok,e.Cd⟩,c.I0 Hp⟩
section
variable(w:PB h bi b F)(g:Gz b (n+1005) o a)(P:t.Sm)(Q:AK t.Al av)
def aU4(a:t.st Eu):GB h F 111 [Pt bi 0,.agg (Bc t av),z5 (z7 27) [] []] (zu (b.Js t).2) bi (b.Js t).1:=by
 let E:=w.Cg;let⟨h1,v,p,A,i⟩:=aKQ w g (wt b.head);let⟨o,c⟩:=WE (g.dn (n':=n+6+1) Ab);let⟨h2,F2,B,k,f⟩:=aPN A o c P Q a;let⟨r,q,u,m,j,d⟩:=ă k (TL o c P a).2 b.head;refine⟨q,u,?_,j,(i.trans f).trans d⟩;let e:AB (.Fc [I 0,I 0,S [],ff] [(0,1),(1,1),(2,1)]) [I b.head,I 1,S a2I]=zw (.agg (wt b.head).row):=rfl;let s:∀l,C6 (z5 (z7 27) [] []) l=zw (27,l):=λl=>by simp[C6]
 simp only[Ac,pX,By,E,e,p,s,B,m];rfl
def aPO(K:t.st [a2y]->GB h F 30 [Pt bi 0,.agg (Bc t av)] ff bi (b.Hq t)):GB h F 29 [Pt bi 0,.agg (Bc t av)] (zu (b.IQ t).2) bi (b.IQ t).1:=by
 rw[BS.IQ];by_cases I:¬t.ok;.rw[Ae I];let e:=Ln w t av;rw[Ag I] at e;exact⟨_,_,by simp[LX,e],w,.refl⟩
 rw[Aa I];let e:=Ln w t av;rw[Ah (CI.1 I)] at e;by_cases i:t.k=1;.rw[Ae i];exact⟨_,_,by simp[LX,e,Aw i],w,.refl⟩
 rw[Aa i];by_cases H:t.st [a2I];.rw[Ae H];let f:=Gc KY t av h;rw[Ah H] at f;exact⟨_,_,by simp[LX,e,f,i],w,.refl⟩
 rw[Aa H];let f:=Gc KY t av h;rw[Ag H] at f;by_cases G:t.Xb UT;.rw[Ae G];let j:=gP mM t av h;rw[Ah G] at j;exact⟨_,_,by simp[LX,e,f,j,i],w,.refl⟩
 rw[Aa G];let j:=gP mM t av h;rw[Ag G] at j;by_cases E:t.DQ;.rw[Ae E];let l:=UY t av h;rw[Ah E] at l;let⟨O,v,c,o,d⟩:=gK w (g.dn (n':=n+5) Ab) P.r;exact⟨_,_,by simp[LX,e,f,j,l,i,c],o,d⟩
 rw[Aa E];let l:=UY t av h;rw[Ag E] at l;by_cases p:t.k=4;.rw[Ae p];let⟨O,v,c,o,d⟩:=N2 (s:=t.data) w (g.dn (n':=n+1) Ab) (by have:=P.data;omega) 0;exact⟨_,_,by simp[LX,e,f,j,l,i,Aw p,c],o,d⟩
 rw[Aa p];by_cases B:t.st [a2y];.rw[Ae B];let m:=Gc J7 t av h;rw[Ah B] at m;let⟨O,v,c,o,d⟩:=K B;exact⟨_,_,by simp[LX,e,f,j,l,m,i,p,c],o,d⟩
 rw[Aa B];let m:=Gc J7 t av h;rw[Ag B] at m;by_cases D:t.st [a2B];.rw[Ae D];let q:=Gc dv t av h;rw[Ah D] at q;let⟨O,v,c,o,d⟩:=Gb w (g.dn (n':=n+4) Ab) P Q;let⟨J,z,y⟩:=ML o zy;let⟨N,M,L⟩:=Hk z 7;exact⟨_,_,by simp[LX,e,f,j,l,m,q,i,p,c,J,N],M,(d.trans y).trans L⟩
 rw[Aa D];let q:=Gc dv t av h;rw[Ag D] at q;by_cases C:t.st [a2D];.rw[Ae C];let u:=Gc WD t av h;rw[Ah C] at u;let⟨O,v,c,o,d⟩:=Gb w (g.dn (n':=n+4) Ab) P Q;let⟨J,z,y⟩:=Hk o 20;exact⟨_,_,by simp[LX,e,f,j,l,m,q,u,i,p,c,J],z,d.trans y⟩
 rw[Aa C];let u:=Gc WD t av h;rw[Ag C] at u;by_cases A:t.st Eu;.rw[Ae A];let x:=Gc TJ t av h;rw[Ah A] at x;let⟨O,v,c,o,d⟩:=aU4 w g P Q A;exact⟨_,_,by simp[LX,e,f,j,l,m,q,u,x,i,p,c],o,d⟩
 rw[Aa A];let x:=Gc TJ t av h;rw[Ag A] at x;by_cases T:t.en [AE];.rw[Ae T];let R:=gO Hl t av h;rw[Ah T] at R;let⟨O,v,c,o,d⟩:=vU w (g.dn (n':=n+1004) Ab) P Q K;exact⟨_,_,by simp[LX,e,f,j,l,m,q,u,x,R,i,p,c],o,d⟩
 rw[Aa T];let R:=gO Hl t av h;rw[Ag T] at R;let X:=aBL a2B h;let⟨O,v,c,o,d⟩:=Gb (t:=Lj a2B) (av:= .slnil) w (g.dn (n':=n+4) Ab) (HM AR) (.inr ⟨rfl,rfl⟩);let⟨h2,F2,Y,z,y⟩:=qz o 7;simp only[Lj] at X c;exact⟨_,_,by simp[LX,e,f,j,l,m,q,u,x,R,i,p,X,c,Y,BS.again],z,d.trans y⟩
end
def aPP(w:PB h bi b F)(g:Gz b (n+5) o a)(D:t.Sm)(hv:AK t.Al av):GB h F 31 [Pt bi 0,.agg (Bc t av)] (zu (b.L4 t).2) bi (b.L4 t).1:=by
 rw[BS.L4];by_cases l:¬t.ok;.rw[Ae l];let c:=Ln w t av;rw[Ag l] at c;exact⟨_,_,by simp[UL,c],w,.refl⟩
 rw[Aa l];let c:=Ln w t av;rw[Ah (CI.1 l)] at c;by_cases d:t.k=5;.rw[Ae d];let⟨A,s,f,v,e⟩:=gK w (g.dn (n':=n+5) Ab) D.r;exact⟨_,_,by simp[UL,c,Aw d,f],v,e⟩
 rw[Aa d];by_cases i:t.k=6
 .rw[Ae i];let⟨A,s,f,v,e⟩:=Rq w (g.dn (n':=n) Ab);let q:b.Gk.Kt=b.Kt:=by rw[BS.Gk];split<;>rfl
  let x:=v.Cg;rw[q] at x;let⟨h2,F2,C,p,m⟩:=qz v b.Kt;exact⟨_,_,by simp[UL,c,d,Aw i,f,x,C,BS.again],p,e.trans m⟩
 rw[Aa i];by_cases j:t.k=3
 .rw[Ae j];let⟨A,s,f,v,e⟩:=Rq w (g.dn (n':=n) Ab);let q:b.Gk.Kt=b.Kt:=by rw[BS.Gk];split<;>rfl
  let x:=v.Cg;rw[q] at x;let⟨u,p,m⟩:=Hk v b.Kt;exact⟨_,_,by simp[UL,c,d,i,Aw j,f,x,u],p,e.trans m⟩
 exact Aa j▸⟨_,_,by simp[UL,c,d,i,j],w,.refl⟩
end
structure SW(h:Ak)bi(b:BS)(F:Nat->Prop)(si:Nat)(t:DE)(av:Ad):Prop where
 pb:PB h bi b F
 sc:h[si]?=zw (z1 (Pt bi 0::Bc t av))
 no:¬F si
section
variable{h Q:Ak}{N si:Nat}{b R:BS}{F P:Nat->Prop}{n o a:Nat}{t:DE}{O:Ad}
def SW.after(w:SW h N b F si t O)(p:PB Q N R P)(x:Dx h F Q P):SW Q N R P si t O:=by
 let a:=(Aq.1 w.sc).1;refine⟨p,x.old si a w.no▸w.sc,λc=>?_⟩;obtain h1|h1:=x.BD si c
 .exact w.no h1
 .omega
def SW.Cg(w:SW h N b F si t O):A8 h none (Pt si 0)=zw (Pt N 0)/\A8 h (zw 12) (Pt si 1)=zw (.agg (Bc t O))/\A8 h none (Pt si 2)=zw (yu t.name)/\A8 h none (Pt si 12)=zw (.int y4 t.r)/\A8 h none (Pt si 10)=zw (zu t.sc)/\A8 h none (Pt N 1)=zw (I b.Cd)/\A8 h none (Pt N 4)=zw (I b.mode)/\A8 h none (Pt N 5)=zw (I b.Kt)/\A8 h none (Pt N 7)=zw (I b.head)/\A8 h none (Pt N 8)=zw (I b.Fx)/\A8 h none (Pt N 14)=zw (zu b.fs)/\A8 h none (Pt N 18)=zw (I b.sw)/\A8 h none (Pt N 19)=zw (zu b.stop):=by refine⟨by rw[A8,w.sc];rfl,by rw[A8,w.sc];rfl,by rw[A8,w.sc];rfl,by rw[A8,w.sc];rfl,by rw[A8,w.sc];rfl,w.pb.Cg⟩
def dw{s:Aj}:AB (.Df 1) [yu s]=zw (.sl 1 ([s].map BY)):=DK rfl AF
section
variable(w:SW h N b F si t O)
def WG(g:Gz b n o a)(s:Aj):BF cx 364 [Pt si 0,yu s] h (zu (b.has [s])) h:=by let d:=w.Cg;let c:=WC w.pb g 1 (Cc (ws:=[s])) AF;simp only[Ac,tZ,abS,d,dw,c];rfl
def SW.go{f:FuncId}{b:List Ad}{r:Ad}:GB h F f b r N R->∃Q P,BF cx f b h r Q/\PB Q N R P/\Dx h F Q P/\∃v:SW Q N R P si t O,type_of% v.Cg:=λ⟨_,_,a,p,x⟩=>⟨_,_,a,p,x,w.after p x,(w.after p x).Cg⟩
def SW.sto{k:Nat}{v:Ad}:Wr h F N k v R->Cv h 1 (Pt N k) v=zw (put h N k v)/\PB (put h N k v) N R F/\Dx h F (put h N k v) F/\∃z:SW (put h N k v) N R F si t O,type_of% z.Cg:=λ⟨a,p,x⟩=>⟨a,p,x,w.after p x,(w.after p x).Cg⟩
def vV(g:Gz b n o a)(s k:Aj):GB h F 365 [Pt si 0,yu s,yu k] (zm []) N (b.EO s k):=by let t:=w.Cg;let⟨_,h1,l,j,f,d⟩:=N3 w.pb g k;let m:=w.after f d;let r:=m.Cg;let⟨_,h2,F2,q,e,c⟩:=vQ f (g.I0 Co) (Cc (ws:=[s])) AF;let i:=m.after e c;exact⟨_,_,by simp only[Ac,uA,abS,t,j,r,q,dw],e,d.trans c⟩
def aBT(g:Gz b (n+4) o a)(u:t.Sm)(s:AK t.Al O):GB h F 242 [Pt si 0] (zm []) N (b.block t):=by let r:=w.Cg;let⟨h1,l,j,f,d,m,q⟩:=w.go (KX w.pb g);let⟨h2,F2,p,e,c,i,k⟩:=m.go (Gb f g.BT u s);exact⟨_,_,by simp[rW,r,j,q,p],e,d.trans c⟩
end
def aU5(s:Aj):JY cx 362 [yu s] (zu (decide (s∈B2))):=by
 rw[Mh,tX];match s with
 |[]=>simp[B2]
 |[a]=>simp[B2]
 |[a,b]=>
  let e:decide ([a,b]∈B2)=decide (a.toNat=104/\49<=b.toNat/\b.toNat<=54):=by simp only[B2,A0,DF,K0,FU,OD,<-Rb];let g:UInt8.toNat 104=104/\UInt8.toNat 49=49/\UInt8.toNat 50=50/\UInt8.toNat 51=51/\UInt8.toNat 52=52/\UInt8.toNat 53=53/\UInt8.toNat 54=54:=AR;simp only[g];rw[DG];omega
  rw[e];let i1:=Ab;let d:=Ab;let h:=Ab;simp[i1,d,h];by_cases j:a.toNat=104<;>by_cases i:49<=b.toNat<;>by_cases f:b.toNat<=54<;>simp[j,i,f]<;>omega
 |a::b::c::l=>simp[B2];omega
def YN(i:Item):i.row=[I i.node,I i.Bk,yu i.name,zu i.OZ]:=rfl
section
variable(w:SW h N b F si t O)(g:Gz b (n+4) o a)(J:t.Sm)(H:AK t.Al O)
def aU6:GB h F 243 [Pt si 0] (zm []) N (b.NU t):=by
 let m:=(aU5 (DZ b.BT.AJ).name);unfold BS.NU;dsimp only;let A:=w.Cg;let⟨G,u,k,c,e,n,o⟩:=w.go (KX w.pb g);let l:=du c g.BT;by_cases j:(DZ b.BT.AJ).Bk=1
 .by_cases p:(DZ b.BT.AJ).name∈B2;.rw[show AS B2 (DZ b.BT.AJ)=z8 by simp[AS,j,p],Ae rfl];rw[Ah p] at m;let⟨D,E,a,f,d,i,q⟩:=n.go (Rq c g.BT);let⟨y,z,x,s,r,v,l3⟩:=i.go (Gb f g.BT.Gk J H);refine⟨_,_,?_,s,(e.trans d).trans r⟩;simp[Wa,A,k,o,l,a,q,x,YN,Aw j,m.BG rfl rfl]
  .rw[show AS B2 (DZ b.BT.AJ)=zy by simp[AS,j,p],Aa AF];rw[Ag p] at m;let A:=w.Cg;let⟨G,u,k,c,e,n,o⟩:=w.go (KX w.pb g);let l:=du c g.BT;let⟨D,E,a,f,d,i,q⟩:=n.go (Gb c g.BT J H);exact⟨_,_,by simp[Wa,A,k,o,l,a,YN,Aw j,m.BG rfl rfl],f,e.trans d⟩
 .rw[show AS B2 (DZ b.BT.AJ)=zy by simp[AS,j],Aa AF];let⟨D,E,a,f,d,i,q⟩:=n.go (Gb c g.BT J H);exact⟨_,_,by simp[Wa,A,k,o,l,a,YN,j],f,e.trans d⟩
def aU7:GB h F 244 [Pt si 0] (zm []) N (b.W0 t):=let⟨h1,r,p,k,e,a,o⟩:=w.go (aBT w g J H);let⟨n,j,d,f,q⟩:=a.sto (aBJ k z8);let⟨m,i,c,l,l3⟩:=f.sto (ML j zy);⟨_,_,by simp[rX,p,o,n,q,m],i,(e.trans d).trans c⟩
def aU8:GB h F 256 [Pt si 0] (zm []) N (b.Wy t):=by
 rw[BS.Wy];dsimp only;let⟨B,s,m,j,f,x,n⟩:=w.go (KX w.pb g);let⟨A,C,a,i,e,l,p⟩:=x.go (Gb j g.BT J H);let o:=w.Cg;let c:=UZ w.pb g;by_cases k:b.Fx=0
 .by_cases d:b.Pv;.rw[Aa (by simp[k]),Ae d];rw[Ah d] at c;refine⟨_,_,?_,i,f.trans e⟩;simp[TB,o,c,m,n,a,p,Aw k,BR]
  .rw[Aa (by simp[k]),Aa d];rw[Ag d] at c;let⟨B,s,m,j,f,x,n⟩:=w.go (KX w.pb g);let⟨A,C,a,i,e,l,p⟩:=x.go (Gb j g.BT J H);let⟨v,r,q,u,l3⟩:=l.sto (vR i (b.BT.Lh 1));exact⟨_,_,by simp[TB,o,c,m,n,a,p,v,Aw k,BR],r,(f.trans e).trans q⟩
 .by_cases d:b.Pv;.rw[Aa (by simp[d]),Ae d];rw[Ah d] at c;refine⟨_,_,?_,i,f.trans e⟩;simp[TB,o,c,m,n,a,p,k,BR]
  .rw[Ae ⟨k,d⟩];rw[Ag d] at c;exact⟨_,_,by simp[TB,o,c,k,BR],w.pb,.refl⟩
end
def aU9(w:SW h N b F si t O)(g:Gz b (n+4*a+4) o a)(L:t.Sm)(K:AK t.Al O):GB h F 257 [Pt si 0] (zm []) N (b.SY t):=by
 unfold BS.SY;dsimp only;let J:=w.Cg;let i:=WG w g a2G;cases v:b.has [a2G]
 .let C:Gz b (n+4+4*a) o a:=g.dn Ab;rw[Aa AF];rw[v] at i;let⟨P,z,q,l,e,D,G⟩:=w.go (Dm w.pb C);let⟨M,Q,E,k,d,f,r⟩:=D.go (Gb l C.A4 L K);let⟨p,j,c,m,H⟩:=f.sto (ML k zy);exact⟨_,_,by simp[Z3,J,i,q,G,E,r,p],j,(e.trans d).trans c⟩
 .let C:Gz (b.EO a2G []) (n+4+4*a) o a:=g.EO.dn Ab;rw[Ae rfl];rw[v] at i;let⟨P,z,q,l,e,D,G⟩:=w.go (vV w g a2G []);let⟨M,Q,E,k,d,f,r⟩:=D.go (Dm l C);let⟨A,B,p,j,c,m,H⟩:=f.go (Gb k C.A4 L K);let⟨y,u,s,x,l4⟩:=m.sto (ML j zy);exact⟨_,_,by simp[Z3,J,i,q,G,E,r,p,H,y],u,((e.trans d).trans c).trans s⟩
def aKX(w:SW h N b F si t O)(g:Gz b (n+4*a+5) o a)(v:t.Sm)(u:AK t.Al O):GB h F 245 [Pt si 0] (zm []) N (b.fmt t):=by let m:Gz b (n+5+4*a) o a:=g.dn Ab;let s:=w.Cg;let⟨h1,l,j,f,d,p,r⟩:=w.go (Dm w.pb m);let⟨h2,F2,q,e,c,i,k⟩:=p.go (aBE f m.A4 v u);exact⟨_,_,by simp[rY,s,j,r,q],e,d.trans c⟩
def aKY(w:PB h N b F)(g:Gz b n o a)x:∃r,GB h F 369 [Pt N 3,I x] r N {b with AX:=x5 b.AX x}:=by
 obtain⟨i,f,c,tt,G,w,D,rfl⟩:=w;let Rn:=g.rm.AX;let B:=w.l3;let⟨m,q,t⟩:=D;let Iq:m.length=b.AX.length:=by rw[<-q,Ao]
 let d:=f41 w.vA t Ab x;rw[Wm,q] at d;by_cases k:Eo x b.AX<0
 .let e:x5 b.AX x=b.AX:=by rw[x5];rw[Ae k]
  refine⟨ff,h,BD N G,?_,⟨i,f,c,tt,G,?_,⟨m,?_,t⟩,rfl⟩,.refl⟩;.rw[Ac,aE];simp[d,Aw k]
  .rw[e];exact w
  .rw[e];exact q
 .let s:(Eo x b.AX).toNat<m.length:=by let⟨p,hp,e,_⟩:=HJ (n:=x) (l:=b.AX) Ab;omega
  let⟨u,v,y⟩:=aN7 (h:=h) t s Ab;let C:((Eo x b.AX).toNat)=Eo x b.AX:=Ab;rw[C] at v;let A:=w.KJ (u:=u) (l:=x5 b.AX x);let z:Ca (x5 b.AX x) u:=⟨Bl m (Eo x b.AX).toNat,by rw[x5];rw[Aa k,<-q];unfold Bl;simp[E1,JA],y⟩;exact⟨zu z8,_,_,by simp[aE,d,k,B,v,w.st (k:=3) rfl (DB.cells y)],⟨i,f,u,tt,G,A,z,rfl⟩,Be⟩
def aVa(w:SW h N b F si t O)(g:Gz b (n+4*a+5) o a)(B:t.Sm)(J:AK t.Al O):GB h F 246 [Pt si 0] (zm []) N (b.B6 t):=by let A:Gz b (n+1+4+4*a) o a:=g.dn Ab;let H:=w.Cg;let⟨h1,z,u,p,f,C,G⟩:=w.go (Dm w.pb A);let⟨h2,F2,D,m,e,j,v⟩:=C.go (Gb p A.A4 B J);let⟨x,y,s,l,d,i,E⟩:=j.go (aBH m (A.A4.C3 B));let⟨r,k,c,q,l4⟩:=i.sto (ML l zy);exact⟨_,_,by simp[rZ,H,u,G,D,v,s,E,r],k,((f.trans e).trans d).trans c⟩
def aVb(w:SW h N b F si t O)(g:Gz b (n+8*(4*(o+a+8)+10)+8*a+100) o a)(M:t.Sm)(L:AK t.Al O):GB h F 259 [Pt si 0] (zm []) N (b.de t):=by
 let P:Gz b (n+5+4*(a+8)+8*(4*(o+a+8)+10)+4*a) o a:=g.dn Ab;let E:=P.A4;unfold BS.de;dsimp only;let K:=w.Cg;let⟨h1,z,k,i,d,G,J⟩:=w.go (Dm w.pb P);let e:=WG G E a2P;cases u:b.A4.has [a2P]
 .simp[Cy,DW];rw[u] at e;let⟨R,T,H,f,c,j,s⟩:=G.go (aBE i (E.dn (n':=n+5) Ab) M L);exact⟨_,_,by simp[Z5,K,k,J,e,H],f,d.trans c⟩
 .simp[BV];rw[u] at e;let⟨R,T,H,f,c,j,s⟩:=G.go (gM i E a2P);let⟨B,D,y,r,m,p,Q⟩:=j.go (Dm f E.CJ);let⟨A,C,x,q,l,v,l4⟩:=p.go (aBE r E.CJ.A4 M L);exact⟨_,_,by simp[Z5,K,k,J,e,H,s,y,Q,x],q,((d.trans c).trans m).trans l⟩
def aPQ(w:PB h N b F)(g:Gz b n o a):∃x r u,A8 h none (Pt N 0)=zw (Pt x 0)/\BF cx 157 [Pt x 0,I b.Cd] h (zm [.agg r,I 0]) (h++u)/\r.length=13/\r.getD 10 .nilIface= zu (b.a.nd b.Cd).Cm:=by obtain⟨f,i,c,tt,G,w,hc,rfl⟩:=w;let l:=w.l0;let⟨n',m',ps,e⟩:=w.w.pa;obtain⟨r,u,d,K,V,rfl,k,j⟩:=aKb e g.rm.V6 (g.rm.V6.Bj g.ok.ok _);rw[Ae g.ok.Cd.1] at d;exact⟨f,_,u,l,d,rfl,rfl⟩
def aVc(w:SW h N b F si t O)(g:Gz b (n+4) o a)(ht:t.Sm)(hv:AK t.Al O):GB h F 260 [Pt si 0] (zm []) N (b.Q5 t):=by
 let⟨x,r,u,Y,X,LJ,H⟩:=aPQ w.pb g;let z:=w.Cg;let C:SW (h++u) N b F si t O:=w.after w.pb.If ⟨AF,λi T _=>An T,λ_ U=> .inl U⟩;let B:Dx h F (h++u) F:=⟨AF,λi T _=>An T,λ_ U=> .inl U⟩;let R:∀(w:SW (h++u) N b F si t O),∃Q P,W cx (Cf cx 260 [Pt si 0]) (λx vs V=>x= .ret/\vs=[zm []]/\V=Q) h/\PB Q N (b.Q5 t) P/\Dx (h++u) F Q P:=by
  intro w;unfold BS.Q5;dsimp only;cases A:(b.a.nd b.Cd).Cm<;>rw[A] at H
  .simp only[Cy,DW];let M:=w.Cg;let⟨V,G,q,l,e,J,L⟩:=w.go (KX w.pb g);let⟨h2,F2,K,k,d,f,s⟩:=J.go (Gb l g.BT ht hv);let⟨p,j,c,m,Z⟩:=f.sto (ML k zy);let⟨E,y,v,D,l4⟩:=m.sto (Hk j 9);exact⟨_,_,by simp only[Z6,abS,z,Y,X,LJ,H,M,q,L,K,s,p,Z,E],y,((e.trans d).trans c).trans v⟩
  .simp only[BV];let M:=w.Cg;let⟨V,G,q,l,e,J,L⟩:=w.go (Gb w.pb g ht hv);let⟨K,k,d,f,s⟩:=J.sto (ML l zy);let⟨p,j,c,m,Z⟩:=f.sto (Hk k 9);exact⟨_,_,by simp only[Z6,abS,z,Y,X,LJ,H,M,q,L,K,s,p],j,(e.trans d).trans c⟩
 let⟨Q,P,r',p',x'⟩:=R C;exact⟨Q,P,Ac.2 r',p',B.trans x'⟩
def aBU(h:Ak)(F:Nat->Prop)(si:Nat)(f:FuncId)(a:List Ad)(r:Ad)(N:Nat)(R:BS):Prop:=∃Q P,BF cx f a h r Q/\PB Q N R P/\Dx h (λi=>F i\/i=si) Q (λi=>P i\/i=si)
def Dx.gS(x:Dx h F Q P):Dx h (λi=>F i\/i=si) Q (λi=>P i\/i=si):=
 ⟨x.len,λi a c=>x.old i a λd=>c (.inl d),λi a=>by
  obtain a|a:=a
  .rcases x.BD i a with b|b
   .exact .inl (.inl b)
   .exact .inr b
  .exact .inl (.inr a)⟩
def GB.KO{f:FuncId}{a:List Ad}{r:Ad}(d:GB h F f a r N R):aBU h F si f a r N R:=let⟨b,i,e,g,c⟩:=d;⟨b,i,e,g,c.gS⟩
def aKZ(i:Item)(s:Aj)(h:Ak):BF cx 366 [.agg i.row,yu s] h (zu (AS [s] i)) h:=by
 simp[uB,YN];refine⟨λa=>?_,λa=>?_⟩;.simp[AS,a]
 .simp[AS,a]
def aBV(w:SW h N b F si t O):BF cx 367 [Pt si 0] h (zm [I (Dl b.AJ 1).node,zu b.I9]) h:=by
 let e:=w.Cg;let d:=aF4 w.pb 1;let a:=gN w.pb;let c:=aKZ (Dl b.AJ 1) a2B h;rw[YN] at d c;simp[uC,e,d,a,c];refine⟨λf=>?_,λf=>?_⟩
 .have:2<=b.AJ.length:=by omega
  simp[BS.I9,this]
 .have:¬2<=b.AJ.length:=by omega
  simp[BS.I9,this]
def aK0:Mm a4e jY:=Pb Bi
def aK1:Mm [108,105] [[108,105]]:=Pb Bi
def zk:Mm a4o RE:=Pb Bi
def aK2:Mm a2L B2:=Pb Bi
def aVd(w:SW h N b F si t O)(g:Gz b (n+4) o a)(ht:t.Sm)(hv:AK t.Al O):GB h F 252 [Pt si 0] (zm []) N (b.db t):=by
 let⟨E,G,z,U,_⟩:=w.sto (ML w.pb zy);let l0:=w.Cg;let V:=U.Cg;have g1:Gz {b with fs:=zy} (n+4) o a:=g.eq rfl rfl rfl rfl rfl;let ln:=gN U.pb;let Jy:Ev cx 252 [Pt si 0] h λr Q=>r= zm []/\∃P,PB Q N (b.db t) P/\Dx h F Q P:=by
  unfold Ev BS.db;generalize{b with fs:=zy}=c at*;rw[sC];let e0:c.AJ.length<=900000000:=by have:=g1.rm.AJ;omega
  obtain⟨J,k⟩:∃J,J=(if t.name=[108,105] then[[108,105]] else jY):=⟨_,rfl⟩;by_cases y:t.name=[108,105]
  .have hw:Mm [108,105] J:=k▸Ae y▸aK1
   rw[<-k];clear k;simp only[abS,l0,V,E,Aw y,BR,ln,Db ((c.AJ.length:Int)) 1];generalize put h N 14 ff=hs at*;refine DD (i:=0) (λn:Nat=>[I (n-1)]) (λn L=>n<=c.AJ.length/\c.AJ.reverse.find? (BS.HX J)=(c.AJ.take n).reverse.find? (BS.HX J)/\L=hs) (λn=>n) (λn L=>∃P,PB L N (c.Fk J) P/\Dx hs F L P) c.AJ.length rfl ⟨Af _,by rw[Bx],rfl⟩ ?_ ?_
   .rintro n L ⟨hn,X,rfl⟩;cases n
    .let e:c.Fk J=c:=by unfold BS.Fk;rw[X];rfl
     simp only[abS,(Ab:¬(0:Int)<=((0:Nat):Int)-1)];exact .HT 0 rfl ⟨F,by rw[e];exact U.pb,.refl⟩
    next n=>
     let Y:n<c.AJ.length:=Ab;let i1:((n+1:Nat):Int)-1=(n:Int):=Ab;let T:=aF4 U.pb (n:Int);rw[Gg Y] at T;rw[Oo Y,Ed] at X;generalize hi:c.AJ[n]=i at*;rw[YN] at T;let l:=qy hw i.name;let m:=qy zk i.name;let f:=aFq i.Bk i.name;let K:=Db ((n:Int)) 1;by_cases q:AS J i=z8
     .let d:i.Bk=1/\i.name∈J:=by simpa[AS] using q
      rw[Ah d.2] at l;let⟨h2,F2,u,v,s⟩:=vV U g1 i.name i.name;let e:c.Fk J=c.EO i.name i.name:=by unfold BS.Fk;rw[X];simp[BS.HX,q]
      simp only[abS,↓reduceIte,V,i1,Of,T,Aw d.1,l.BG rfl rfl,u];exact .HT (n+1) (by rw[i1]) ⟨F2,by rw[e];exact v,s⟩
     .let cy:AS J i=zy:=by simpa using q
      let C:BS.HX J i=(Dc i&& !(AS RE i)):=by simp[BS.HX,cy]
      rw[C] at X;let R:Dc i=z8->AS RE i=zy->c.Fk J=c:=λL h2=>by unfold BS.Fk;rw[X,L,h2];simp[cy]
      let Z:(Dc i&& !(AS RE i))=zy->c.AJ.reverse.find? (BS.HX J)=(c.AJ.take n).reverse.find? (BS.HX J):=λL=>by rw[X,L]
      by_cases d:i.Bk=1
      .let B:i.name∉J:=λh=>q (by simp[AS,d,h]);rw[Ag B] at l;by_cases j:Dc i=z8
       .let M:Dw i.Bk i.name=z8:=j;rw[M] at f;by_cases p:i.name∈RE;.rw[Ah p] at m;simp only[abS,↓reduceIte,V,i1,Of,T,Aw d,l.BG rfl rfl,m.BG rfl rfl,f.BG rfl rfl,K];exact .next n rfl ⟨Ab,Z (by simp[AS,d,p]),rfl⟩ Ab
        .rw[Ag p] at m;simp only[abS,↓reduceIte,V,i1,Of,T,Aw d,l.BG rfl rfl,m.BG rfl rfl,f.BG rfl rfl,K];exact .HT (n+1) (by rw[i1]) ⟨F,by rw[R j (by simp[AS,p])];exact U.pb,.refl⟩
       .let M:Dw i.Bk i.name=zy:=by simpa[Dc] using j
        rw[M] at f;simp only[abS,↓reduceIte,V,i1,Of,T,Aw d,l.BG rfl rfl,f.BG rfl rfl,K];exact .next n rfl ⟨Ab,Z (by simp[show Dc i=zy from M]),rfl⟩ Ab
      .by_cases j:Dc i=z8;.let M:Dw i.Bk i.name=true:=j;rw[M] at f;simp only[abS,↓reduceIte,V,i1,Of,T,d,f.BG rfl rfl,K];exact .HT (n+1) (by rw[i1]) ⟨F,by rw[R j (by simp[AS,d])];exact U.pb,.refl⟩
       .let M:Dw i.Bk i.name=zy:=by simpa[Dc] using j
        rw[M] at f;simp only[abS,↓reduceIte,V,i1,Of,T,d,f.BG rfl rfl,K];exact .next n rfl ⟨Ab,Z (by simp[show Dc i=zy from M]),rfl⟩ Ab
   .rintro n L ⟨F2,A,x⟩;let⟨H,D,u,v,s⟩:=aBT (U.after A x) g1.Fk ht hv;simp only[By,u];exact⟨_,rfl,rfl,D,v,(z.trans x).trans s⟩
  .have hw:Mm a4e J:=k▸Aa y▸aK0
   rw[<-k];clear k;simp only[abS,l0,V,E,y,BR,ln,Db ((c.AJ.length:Int)) 1];generalize put h N 14 ff=hs at*;refine DD (i:=0) (λn:Nat=>[I (n-1)]) (λn L=>n<=c.AJ.length/\c.AJ.reverse.find? (BS.HX J)=(c.AJ.take n).reverse.find? (BS.HX J)/\L=hs) (λn=>n) (λn L=>∃P,PB L N (c.Fk J) P/\Dx hs F L P) c.AJ.length rfl ⟨Af _,by rw[Bx],rfl⟩ ?_ ?_
   .rintro n L ⟨hn,X,rfl⟩;cases n
    .let e:c.Fk J=c:=by unfold BS.Fk;rw[X];rfl
     simp only[abS,(Ab:¬(0:Int)<=((0:Nat):Int)-1)];exact .HT 0 rfl ⟨F,by rw[e];exact U.pb,.refl⟩
    next n=>
     let Y:n<c.AJ.length:=Ab;let i1:((n+1:Nat):Int)-1=(n:Int):=Ab;let T:=aF4 U.pb (n:Int);rw[Gg Y] at T;rw[Oo Y,Ed] at X;generalize hi:c.AJ[n]=i at*;rw[YN] at T;let l:=qy hw i.name;let m:=qy zk i.name;let f:=aFq i.Bk i.name;let K:=Db ((n:Int)) 1;by_cases q:AS J i=z8
     .let d:i.Bk=1/\i.name∈J:=by simpa[AS] using q
      rw[Ah d.2] at l;let⟨h2,F2,u,v,s⟩:=vV U g1 i.name i.name;let e:c.Fk J=c.EO i.name i.name:=by unfold BS.Fk;rw[X];simp[BS.HX,q]
      simp only[abS,↓reduceIte,V,i1,Of,T,Aw d.1,l.BG rfl rfl,u];exact .HT (n+1) (by rw[i1]) ⟨F2,by rw[e];exact v,s⟩
     .let cy:AS J i=zy:=by simpa using q
      let C:BS.HX J i=(Dc i&& !(AS RE i)):=by simp[BS.HX,cy]
      rw[C] at X;let R:Dc i=z8->AS RE i=zy->c.Fk J=c:=λL h2=>by unfold BS.Fk;rw[X,L,h2];simp[cy]
      let Z:(Dc i&& !(AS RE i))=zy->c.AJ.reverse.find? (BS.HX J)=(c.AJ.take n).reverse.find? (BS.HX J):=λL=>by rw[X,L]
      by_cases d:i.Bk=1
      .let B:i.name∉J:=λh=>q (by simp[AS,d,h]);rw[Ag B] at l;by_cases j:Dc i=z8
       .let M:Dw i.Bk i.name=true:=j;rw[M] at f;by_cases p:i.name∈RE;.rw[Ah p] at m;simp only[abS,↓reduceIte,V,i1,Of,T,Aw d,l.BG rfl rfl,m.BG rfl rfl,f.BG rfl rfl,K];exact .next n rfl ⟨Ab,Z (by simp[AS,d,p]),rfl⟩ Ab
        .rw[Ag p] at m;simp only[abS,↓reduceIte,V,i1,Of,T,Aw d,l.BG rfl rfl,m.BG rfl rfl,f.BG rfl rfl,K];exact .HT (n+1) (by rw[i1]) ⟨F,by rw[R j (by simp[AS,p])];exact U.pb,.refl⟩
       .let M:Dw i.Bk i.name=zy:=by simpa[Dc] using j
        rw[M] at f;simp only[abS,↓reduceIte,V,i1,Of,T,Aw d,l.BG rfl rfl,f.BG rfl rfl,K];exact .next n rfl ⟨Ab,Z (by simp[show Dc i=zy from M]),rfl⟩ Ab
      .by_cases j:Dc i=z8;.let M:Dw i.Bk i.name=true:=j;rw[M] at f;simp only[abS,↓reduceIte,V,i1,Of,T,d,f.BG rfl rfl,K];exact .HT (n+1) (by rw[i1]) ⟨F,by rw[R j (by simp[AS,d])];exact U.pb,.refl⟩
       .let M:Dw i.Bk i.name=zy:=by simpa[Dc] using j
        rw[M] at f;simp only[abS,↓reduceIte,V,i1,Of,T,d,f.BG rfl rfl,K];exact .next n rfl ⟨Ab,Z (by simp[show Dc i=zy from M]),rfl⟩ Ab
   .rintro n L ⟨F2,A,x⟩;let⟨H,D,u,v,s⟩:=aBT (U.after A x) g1.Fk ht hv;simp only[By,u];exact⟨_,rfl,rfl,D,v,(z.trans x).trans s⟩
 obtain⟨r,Q,hr,rfl,P,p',x'⟩:=Jy.ret;exact⟨Q,P,hr,p',x'⟩
def aK3(w:PB h N b F)(g:Gz b n o a)(nm:Aj):BF cx 321 [Pt N 3,yu nm] h (I (D2 nm b.AX)) h/\(0<=D2 nm b.AX->∃v p,A8 h none (Pt N 3)=zw v/\AB (.EM 3) [v,I (D2 nm b.AX)]=zw p/\∃q,AB (.Mo 0) [p]=zw q/\A8 h none q=zw (I (b.AX.getD (D2 nm b.AX).toNat y9).node)):=by
 obtain⟨j,i,c,tt,G,w,x,rfl⟩:=w;let Rn:=g.rm.AX;let⟨l,m,s⟩:=x;let Iq:l.length=b.AX.length:=by rw[<-m,Ao]
 let d:=aN1 w.vA s Ab nm;rw[vB,m] at d;refine⟨d,λy=>?_⟩;let⟨k,e,f⟩:=P3 y;rw[f,A6];let r:k<l.length:=Ab;let z:=AY.BL (k:= y8) s r;let u:b.AX.getD k y9=l[k].c:=by rw[A3,<-m,Cp,Ap r];rfl
 exact⟨c,_,w.l3,z,_,rfl,by rw[u];rfl⟩
def aVe(w:SW h N b F si t O)(g:Gz b (n+8*(4*(o+8)+10)+4*(a+8)+5) o a)(V:t.Sm)(U:AK t.Al O):GB h F 258 [Pt si 0] (zm []) N (b.dd t):=by
 let⟨m,C⟩:=aK3 w.pb g [97];unfold BS.dd BS.Ov;dsimp only;by_cases u:D2 [97] b.AX<0;.rw[Ae u];let R:=w.Cg;let⟨h1,I,f,d,c,T,Q⟩:=w.go (aKX w (g.dn (n':=n+4*a+5) Ab) V U);exact⟨_,_,by simp[Z4,AP,T6,R,f,Q,m,(Ab:¬0<=D2 [97] b.AX)],d,c⟩
 .rw[Aa u];let⟨v,p,H,G,q,E,D⟩:=C Ab;let P:Gz b (n+4*(a+8)+5+8*(4*(o+8)+10)) o a:=g.dn Ab;generalize(b.AX.getD (D2 [97] b.AX).toNat y9).node=nd at*;let R:=w.Cg;let⟨h1,I,f,d,c,T,Q⟩:=w.go (gM w.pb P [97]);let⟨_,h2,F2,X,s,k⟩:=aKY d P.CJ nd;let l:=T.after s k;let B:=l.Cg;let⟨_,K,M,z,A,j⟩:=dk s (P.CJ.sub (AW _) O9 (Af _)) nd;let e:=l.after A j;let Z:=e.Cg;let⟨J,L,y,r,i,x,Y⟩:=e.go (aKX e (P.CJ.sub Hp O9 (Af _)) V U);exact⟨_,_,by simp[Z4,AP,T6,R,f,Q,X,B,z,Z,y,Y,m,(Ab:0<=D2 [97] b.AX),H,G,E,D],r,((c.trans k).trans j).trans i⟩
def dx{x:Bb}{l:List Bb}:wx (x::l)=if x.name=a3Y then decide (Eb x.value=a3I) else wx l:=by
 unfold wx;rw[Ed];by_cases h:x.name=a3Y;.simp[h]
 .simp[h]
def aVf(l:t.Sm)(p:AK t.Al O)(h:Ak):BF cx 363 [.agg (Bc t O)] h (zu (wx t.Al)) h:=by
 let cR:=hK;let o:=p;let e:=AY.CQ o;let hb:=l.Al.1;let f:Eb a3I=a3I:=Sv AR;simp[tY,e];refine Bm (λn:Nat=>[ff,I n]) (λn m=>n<=t.Al.length/\m=h/\wx t.Al=wx (t.Al.drop n)) (λn=>t.Al.length-n) 0 rfl ⟨AZ _,rfl,rfl⟩ ?_;rintro n m ⟨hn,rfl,b⟩;obtain a|EC:=AQ n t.Al.length
 .let d:=AY.BL (k:= y8) o a;let Sj:=(l.Al.2 _ (AV a)).2;let c:=aAV t.Al[n].value a3I Ab AR;rw[f] at c;rw[AI a,dx] at b;rw[xi] at d;simp[(Ab:n<t.Al.length),d,c.BG rfl rfl,BB n];refine⟨λi=>?_,λi=>?_⟩;.rw[b,Ae i]
  .rw[Aa i] at b;exact xx (n+1) rfl ⟨a,rfl,b⟩ Ab
 .rw[AU EC] at b;simp[(Ab:¬n<t.Al.length),b];rfl
def SW.aF7(w:SW h N b F si t O)(nm:Aj):Cv h 1 (Pt si 2) (yu nm)=zw (put h si 2 (yu nm))/\SW (put h si 2 (yu nm)) N b F si {t with name:=nm} O/\Dx h (λi=>F i\/i=si) (put h si 2 (yu nm)) (λi=>F i\/i=si):=by let c:At h si 2 (yu t.name):=⟨_,w.sc,rfl⟩;exact⟨c.store rfl,⟨w.pb.Dt λi f=>Cq λe=>w.no (e▸f),by rw[IP w.sc];rfl,w.no⟩,Kr▸Af _,λi _ d=>Cq λe=>d (.inr e),λ_ h=> .inl h⟩
def aPR(w:SW h N b F si t O)(g:Gz b (n+4*a+4) o a)(M:t.Sm)(L:AK t.Al O):aBU h F si 247 [Pt si 0] (zm []) N (b.empty t):=by
 let A:Gz b (n+4) o a:=g.dn Ab;let P:Gz b (n+4+4*a) o a:=g.dn Ab;rw[BS.empty];by_cases q:t.name=[104,114];.rw[Ae q];refine GB.KO ?_;let G:=w.Cg;let⟨Q,v,m,f,d,K,J⟩:=w.go (KX w.pb A);let⟨T,U,H,e,c,j,p⟩:=K.go (q_ f A.BT M L);let⟨s,l,k,r,R⟩:=j.sto (ML e zy);exact⟨_,_,by simp[M0,G,m,J,H,p,s,Aw q],l,(d.trans c).trans k⟩
 rw[Aa q];by_cases i:t.name∈SV
 .rw[Ae i];refine GB.KO ?_;let G:=w.Cg;let⟨Q,v,m,f,d,K,J⟩:=w.go (q_ w.pb A M L);let⟨H,e,c,j,p⟩:=K.sto (ML f b.fs);simp[SV,A0,DF,K0] at i;by_cases y:t.name=a4J
  .skip
   exact⟨_,_,by simp[M0,G,m,J,H,q,Aw y],e,d.trans c⟩
  by_cases z:t.name=a4s;.exact⟨_,_,by simp[M0,G,m,J,H,q,y,Aw z],e,d.trans c⟩
  .let E:t.name=a4K:=by simpa[y,z] using i
   exact⟨_,_,by simp[M0,G,m,J,H,q,y,z,Aw E],e,d.trans c⟩
 rw[Aa i];simp[SV,A0,DF,K0,MO] at i;by_cases u:t.name=a27
 .rw[Ae u];refine GB.KO ?_;let G:=w.Cg;let⟨Q,v,m,f,d,K,J⟩:=w.go (Dm w.pb P);let⟨T,U,H,e,c,j,p⟩:=K.go (q_ f P.A4 M L);cases kf:b.fs
  .let⟨s,l,k,r,R⟩:=j.sto (ML e zy);rw[kf] at G;exact⟨_,_,by simp[M0,G,m,J,H,p,s,q,i.1,i.2.1,i.2.2,Aw u],l,(d.trans c).trans k⟩
  .let C:=aVf M L Q;let⟨s,l,k,r,R⟩:=j.sto (ML e (wx t.Al));rw[kf] at G;exact⟨_,_,by simp[M0,G,m,J,C,H,p,s,q,i.1,i.2.1,i.2.2,Aw u],l,(d.trans c).trans k⟩
 rw[Aa u];by_cases x:t.name=a2W;.rw[Ae x];let D:=w.Cg;let⟨V,w,B⟩:=w.aF7 a3N;let X:({t with name:=a3N}:DE).Sm:=M.rn AR;let G:=w.Cg;let⟨Q,v,m,f,d,K,J⟩:=w.go (Dm w.pb P);let⟨T,U,H,e,c,j,p⟩:=K.go (q_ f P.A4 X L);let⟨s,l,k,r,R⟩:=j.sto (ML e zy);exact⟨_,_,by simp[M0,D,q,i.1,i.2.1,i.2.2,u,Aw x,V,G,m,J,H,p,s],l,B.trans ((d.trans c).trans k).gS⟩
 .rw[Aa x];refine GB.KO ?_;let G:=w.Cg;let⟨Q,v,m,f,d,K,J⟩:=w.go (Dm w.pb P);let⟨T,U,H,e,c,j,p⟩:=K.go (q_ f P.A4 M L);let⟨s,l,k,r,R⟩:=j.sto (ML e zy);exact⟨_,_,by simp[M0,G,m,J,H,p,s,q,i.1,i.2.1,i.2.2,u,x],l,(d.trans c).trans k⟩
end
end Go.Am
end
open Nat renaming beq→x6,beq_eq→wp,ble_eq→wo
open Go.Am.Ad renaming nilFunc→y5,map→xv
open Go.Am.DH renaming map→xu
open Go.Am.BS renaming Ey→wn
section
namespace Go.Am
open Go
section
variable{h M:Ak}{K si:Nat}{b b':BS}{F N:Nat->Prop}{n o a:Nat}{t:DE}{L:Ad}
def aVg(w:SW h K b F si t L)(g:Gz b (n+4*a+4) o a)(O:t.Sm)(N:AK t.Al L):GB h F 249 [Pt si 0] (zm []) K (b.raw t):=by
 let x:Gz b (n+4) o a:=g.dn Ab;let R:Gz b.BT (n+4+4*a) o a:=g.BT.dn Ab;rw[BS.raw];by_cases l:t.name=a2T;.rw[Ae l];let c:=w.Cg;let⟨P,z,k,e,d,H,J⟩:=w.go (aBT w x O N);let⟨M,i,f,j,r⟩:=H.sto (aUZ e 5);exact⟨_,_,by simp[QR,c,k,J,M,Aw l],i,d.trans f⟩
 rw[Aa l];by_cases m:t.name=a2U;.rw[Ae m];let c:=w.Cg;let⟨P,z,k,e,d,H,J⟩:=w.go (gL w.pb x O N 2);let⟨M,i,f,j,r⟩:=H.sto (aBJ e z8);let⟨y,q,p,u,Q⟩:=j.sto (ML i zy);exact⟨_,_,by simp[QR,c,k,J,M,r,y,l,Aw m],q,(d.trans f).trans p⟩
 rw[Aa m];by_cases s:t.name=a3E;.rw[Ae s];let c:=w.Cg;let⟨P,z,k,e,d,H,J⟩:=w.go (KX w.pb g);let⟨T,U,M,i,f,j,r⟩:=H.go (Dm e R);let⟨y,q,p,u,Q⟩:=j.sto (ML i zy);let⟨E,G,D,B,A,C,l4⟩:=u.go (gL q (R.A4.eq rfl rfl rfl rfl rfl) O N 3);exact⟨_,_,by simp[QR,c,k,J,M,r,y,Q,D,l,m,Aw s],B,((d.trans f).trans p).trans A⟩
 rw[Aa s];by_cases v:t.name=a3h;.rw[Ae v];let c:=w.Cg;let⟨k,e,d,H,J⟩:=w.sto (ML w.pb zy);let⟨T,U,M,i,f,j,r⟩:=H.go (gL e (x.eq rfl rfl rfl rfl rfl) O N 3);exact⟨_,_,by simp[QR,c,k,J,M,l,m,s,Aw v],i,d.trans f⟩
 .rw[Aa v];let c:=w.Cg;let⟨P,z,k,e,d,H,J⟩:=w.go (gL w.pb x O N 3);exact⟨_,_,by simp[QR,c,k,l,m,s,v],e,d⟩
def dy{nm:Aj}{l:List Bb}{sp:Int}:(b.D5 nm l sp).mode=b.mode:=by
 rw[BS.D5];split
 .rename_i a;let e:∀p,(b.EL nm l sp p).mode=b.mode:=λp=>by rw[BS.EL];rw[Ae a]
  rw[e]
 .rfl
def mN:∀{l:List B9} {b:BS},(wg l b).2.mode=b.mode
 |[],b=>rfl
 |e::l,b=>by rw[wg];simp only;rw[mN,dy]
section
variable(w:SW h K b F si t L)
def aVh(g:Gz b (n+4*a+4) o a)(P:t.Sm)(O:AK t.Al L):GB h F 261 [Pt si 0] (zm []) K (b.SZ t):=by
 let J:Gz b (n+4+4*a) o a:=g.dn Ab;let Q:(b.A4.C3 t).mode=b.mode:=by rw[BS.C3];rw[dy];rw[BS.A4];simp only;exact mN
 rw[BS.SZ];by_cases x:b.mode=9;.rw[Ae (.inl x)];let H:=w.Cg;let⟨T,B,u,p,f,M,G⟩:=w.go (Dm w.pb J);let⟨R,U,E,m,e,j,v⟩:=M.go (Gb p J.A4 P O);let⟨s,l,d,i,D⟩:=j.sto (ML m zy);rw[Q] at D;let⟨r,k,c,q,N⟩:=i.sto (Hk l 17);exact⟨_,_,by simp[O4,H,u,G,E,v,s,D,r,Aw x],k,((f.trans e).trans d).trans c⟩
 by_cases y:b.mode=11;.rw[Ae (.inr (.inl y))];let H:=w.Cg;let⟨T,B,u,p,f,M,G⟩:=w.go (Dm w.pb J);let⟨R,U,E,m,e,j,v⟩:=M.go (Gb p J.A4 P O);let⟨s,l,d,i,D⟩:=j.sto (ML m zy);rw[Q] at D;let⟨r,k,c,q,N⟩:=i.sto (Hk l 17);exact⟨_,_,by simp[O4,H,u,G,E,v,s,D,r,x,Aw y],k,((f.trans e).trans d).trans c⟩
 by_cases z:b.mode=13;.rw[Ae (.inr (.inr (.inl z)))];let H:=w.Cg;let⟨T,B,u,p,f,M,G⟩:=w.go (Dm w.pb J);let⟨R,U,E,m,e,j,v⟩:=M.go (Gb p J.A4 P O);let⟨s,l,d,i,D⟩:=j.sto (ML m zy);rw[Q] at D;let⟨r,k,c,q,N⟩:=i.sto (Hk l 17);exact⟨_,_,by simp[O4,H,u,G,E,v,s,D,r,x,y,Aw z],k,((f.trans e).trans d).trans c⟩
 by_cases A:b.mode=14;.rw[Ae (.inr (.inr (.inr (.inl A))))];let H:=w.Cg;let⟨T,B,u,p,f,M,G⟩:=w.go (Dm w.pb J);let⟨R,U,E,m,e,j,v⟩:=M.go (Gb p J.A4 P O);let⟨s,l,d,i,D⟩:=j.sto (ML m zy);rw[Q] at D;let⟨r,k,c,q,N⟩:=i.sto (Hk l 17);exact⟨_,_,by simp[O4,H,u,G,E,v,s,D,r,x,y,z,Aw A],k,((f.trans e).trans d).trans c⟩
 let H:=w.Cg;let⟨T,B,u,p,f,M,G⟩:=w.go (Dm w.pb J);let⟨R,U,E,m,e,j,v⟩:=M.go (Gb p J.A4 P O);let⟨s,l,d,i,D⟩:=j.sto (ML m zy);rw[Q] at D;by_cases C:b.mode=15;.rw[Ae (.inr (.inr (.inr (.inr C))))];let⟨r,k,c,q,N⟩:=i.sto (Hk l 17);exact⟨_,_,by simp[O4,H,u,G,E,v,s,D,r,x,y,z,A,Aw C],k,((f.trans e).trans d).trans c⟩
 .rw[Aa (by simp[x,y,z,A,C])];let⟨r,k,c,q,N⟩:=i.sto (Hk l 16);exact⟨_,_,by simp[O4,H,u,G,E,v,s,D,r,x,y,z,A,C],k,((f.trans e).trans d).trans c⟩
def aVi(g:Gz b (n+4*a+4) o a)(G:t.Sm)(E:AK t.Al L):GB h F 253 [Pt si 0] (zm []) K (b.S0 t):=by
 let z:Gz b (n+4+4*a) o a:=g.dn Ab;rw[BS.S0];let D:=w.Cg;let l:=du w.pb g;let e:=aKZ (DZ b.AJ) a3a h;cases r:AS [a3a] (DZ b.AJ)
 .rw[Aa AF];rw[r] at e;let⟨J,v,k,i,d,A,C⟩:=w.go (Dm w.pb z);let⟨H,M,B,f,c,j,q⟩:=A.go (Gb i z.A4 G E);exact⟨_,_,by simp[Z0,D,l,e,k,C,B],f,d.trans c⟩
 .rw[Ae rfl];rw[r] at e;let⟨J,v,k,i,d,A,C⟩:=w.go (Rq w.pb z);let⟨H,M,B,f,c,j,q⟩:=A.go (Dm i z.Gk);let⟨x,y,u,p,m,s,l3⟩:=j.go (Gb f z.Gk.A4 G E);exact⟨_,_,by simp[Z0,D,l,e,k,C,B,q,u],p,(d.trans c).trans m⟩
def aVj(g:Gz b (n+4) o a)(z:t.Sm)(y:AK t.Al L):GB h F 250 [Pt si 0] (zm []) K (b.gI t):=by
 rw[BS.gI];let u:=w.Cg;let d:=WG w g a3t;cases p:b.has [a3t]
 .rw[Aa AF];rw[p] at d;let⟨A,q,j,e,c,s,v⟩:=w.go (Gb w.pb g z y);exact⟨_,_,by simp[Tz,u,d,j],e,c⟩
 .rw[Ae rfl];by_cases l:t.name=[114,112];.rw[Ae (.inl l)];rw[p] at d;let⟨_,A,q,j,e,c⟩:=N3 w.pb g a4a;let s:=w.after e c;let v:=s.Cg;let⟨B,C,x,i,f,k,r⟩:=s.go (Gb e (g.I0 Co) z y);exact⟨_,_,by simp[Tz,u,d,j,v,x,Aw l],i,c.trans f⟩
  by_cases m:t.name=[114,116];.rw[Ae (.inr m)];let u:=w.Cg;let d:=WG w g a3t;rw[p] at d;let⟨_,A,q,j,e,c⟩:=N3 w.pb g a4a;let s:=w.after e c;let v:=s.Cg;let⟨B,C,x,i,f,k,r⟩:=s.go (Gb e (g.I0 Co) z y);exact⟨_,_,by simp[Tz,u,d,j,v,x,l,Aw m],i,c.trans f⟩
  .rw[Aa (by simp[l,m])];let u:=w.Cg;let d:=WG w g a3t;rw[p] at d;let⟨_,A,q,j,e,c⟩:=N3 w.pb g [];let s:=w.after e c;let v:=s.Cg;let⟨B,C,x,i,f,k,r⟩:=s.go (Gb e (g.I0 Co) z y);exact⟨_,_,by simp[Tz,u,d,j,v,x,l,m],i,c.trans f⟩
def aVk(g:Gz b (n+4*a+4) o a)(B:t.Sm)(E:AK t.Al L):GB h F 251 [Pt si 0] (zm []) K (b.NV t):=by
 let A:Gz b (n+4+4*a) o a:=g.dn Ab;unfold BS.NV;dsimp only;by_cases m:t.name=a4l
 .rw[Ae m];cases c:t.sc
  .rw[Aa AF];let z:=w.Cg;rw[c] at z;let⟨H,u,l,i,e,C,y⟩:=w.go (Dm w.pb A);rw[c] at y;let⟨G,J,D,f,d,k,j⟩:=C.go (vP i A.A4 B E 3);rw[c] at j;exact⟨_,_,by simp[TA,z,l,y,D,j,Aw m],f,e.trans d⟩
  .rw[Ae rfl];let z:=w.Cg;rw[c] at z;let⟨H,u,l,i,e,C,y⟩:=w.go (Dm w.pb A);rw[c] at y;let⟨G,J,D,f,d,k,j⟩:=C.go (vP i A.A4 B E 3);rw[c] at j;let⟨v,x,s,q,p,r,M⟩:=k.go (Rq f (A.A4.Mf B.Al B.name));exact⟨_,_,by simp[TA,z,l,y,D,j,s,Aw m],q,(e.trans d).trans p⟩
 .rw[Aa m];cases c:t.sc
  .rw[Aa AF];let z:=w.Cg;rw[c] at z;let⟨H,u,l,i,e,C,y⟩:=w.go (Dm w.pb A);rw[c] at y;let⟨G,J,D,f,d,k,j⟩:=C.go (vP i A.A4 B E 2);rw[c] at j;exact⟨_,_,by simp[TA,z,l,y,D,j,m],f,e.trans d⟩
  .rw[Ae rfl];let z:=w.Cg;rw[c] at z;let⟨H,u,l,i,e,C,y⟩:=w.go (Dm w.pb A);rw[c] at y;let⟨G,J,D,f,d,k,j⟩:=C.go (vP i A.A4 B E 2);rw[c] at j;let⟨v,x,s,q,p,r,M⟩:=k.go (Rq f (A.A4.Mf B.Al B.name));exact⟨_,_,by simp[TA,z,l,y,D,j,s,m],q,(e.trans d).trans p⟩
def aPS(g:Gz b (n+1000) o a)(D:t.Sm)(C:AK t.Al L):GB h F 254 [Pt si 0] (zm []) K (b.MK t):=by
 rw[BS.MK];by_cases j:b.Pv;.rw[Ae (.inl j)];let c:=w.Cg;let d:=UZ w.pb g;rw[Ah j] at d;exact⟨_,_,by simp[QS,c,d],w.pb,.refl⟩
 by_cases p:b.AJ=[];.rw[Ae (.inr p)];let c:=w.Cg;let d:=UZ w.pb g;rw[Ag j] at d;let i:=gN w.pb;exact⟨_,_,by simp only[Ac,QS,By,T6,c,d,i,show((b.AJ.length:Int)=0)=True from Aw (by rw[p];rfl)],w.pb,.refl⟩
 let z:¬(b.AJ.length:Int)=0:=λe=>p (DR Ab);rw[Aa (by simp[j,p])];by_cases m:t.name=a2y;.rw[Ae m];let c:=w.Cg;let d:=UZ w.pb g;rw[Ag j] at d;let i:=gN w.pb;let f:=aF4 w.pb 0;let⟨h1,y,q,l,k,A,B⟩:=w.go (zb w.pb g D C (Dl b.AJ 0).node);exact⟨_,_,by simp only[Ac,QS,abS,c,d,i,f,q,z,Aw m,YN,BK],l,k⟩
 rw[Aa m];let c:=w.Cg;let d:=UZ w.pb g;rw[Ag j] at d;let i:=gN w.pb;let f:=aBV w;cases u:b.I9
 .rw[Aa AF];rw[u] at f;exact⟨_,_,by simp[QS,c,d,i,f,z,m],w.pb,.refl⟩
 .rw[Ae rfl];rw[u] at f;let⟨q,l,k,A,B⟩:=w.sto (ML w.pb zy);let⟨h2,F2,E,s,r,v,x⟩:=A.go (zb l (g.eq rfl rfl rfl rfl rfl) D C (Dl b.AJ 1).node);exact⟨_,_,by simp only[Ac,QS,abS,c,d,i,f,q,B,E,z,m],s,k.trans r⟩
def aVl(g:Gz b (n+4*a+5) o a)(D:t.Sm):GB h F 112 [Pt si 0] (zm []) K (b.Rp t):=by
 let B:Gz b (n+5+4*a) o a:=g.dn Ab;rw[BS.Rp];by_cases j:t.r=0;.rw[Ae j];let y:=w.Cg;exact⟨_,_,by simp[V8,y,Aw j],w.pb,.refl⟩
 rw[Aa j];dsimp only;let y:=w.Cg;let⟨h1,x,m,i,d,C,A⟩:=w.go (Dm w.pb B);let⟨E,F2,z,f,c,k,p⟩:=C.go (gK i B.A4 D.r);let e:=UY t L E;by_cases l:t.DQ;.rw[Ae l];rw[Ah l] at e;exact⟨_,_,by simp[V8,y,m,A,z,p,e,j],f,d.trans c⟩
 .rw[Aa l];rw[Ag l] at e;let⟨v,s,q,u,l3⟩:=k.sto (ML f zy);exact⟨_,_,by simp[V8,y,m,A,z,p,e,v,j],s,(d.trans c).trans q⟩
section
variable(g:Gz b n o a)
def aPT:GB h F 263 [Pt si 0] (zm []) K (b.J6 t):=by
 rw[BS.J6];let k:=w.Cg;let c:=WG w g t.name;cases f:b.has [t.name]
 .rw[Aa AF];rw[f] at c;exact⟨_,_,by simp[Z8,k,c],w.pb,.refl⟩
 .rw[Ae rfl];rw[f] at c;let⟨h1,j,i,e,d,w1,l1⟩:=w.go (vV w g t.name []);exact⟨_,_,by simp[Z8,k,c,i],e,d⟩
def aVm:GB h F 266 [Pt si 0] (zm []) K (b.Qc t):=by
 rw[BS.Qc];let m:=w.Cg;let c:=WG w g t.name;cases j:b.has [t.name]
 .rw[Aa AF];rw[j] at c;exact⟨_,_,by simp[aA,m,c],w.pb,.refl⟩
 .rw[Ae rfl];rw[j] at c;let⟨h1,p,l,i,e,q,s⟩:=w.go (vV w g t.name []);let⟨_,h2,F2,r,f,d⟩:=zc i g.EO;let k:=q.after f d;exact⟨_,_,by simp[aA,m,c,l,s,r],f,e.trans d⟩
def aVn:GB h F 265 [Pt si 0] (zm []) K b.Ow:=by
 let d:Dx h F (h++[.CV]) F:=⟨AF,λi y _=>An y,λ_ z=> .inl z⟩;let j:=aBK aK2 h;let w:=w.after w.pb.If d;rw[BS.Ow];let c:=WC w.pb g 1 (Cc (ws:=B2)) AR;let A:b.GA 1 (AS B2)=b.has B2:=rfl;rw[A] at c;cases m:b.has B2<;>rw[m] at c
 .rw[Aa AF];let r:=w.Cg;exact⟨_,_,by simp[Z9,j,r,c],w.pb,d⟩
 .rw[Ae rfl];let r:=w.Cg;let⟨_,h1,s,q,l,f⟩:=N3 w.pb g [];let t:=w.after l f;let x:=t.Cg;let⟨_,h2,F2,v,k,e⟩:=vQ l (g.I0 Co) (Cc (ws:=B2)) AR;let p:=t.after k e;exact⟨_,_,by simp[Z9,j,r,c,q,x,v],k,d.trans (f.trans e)⟩
def aPU:GB h F 262 [Pt si 0] (zu (b.TI t).2) K (b.TI t).1:=by
 rw[BS.TI];let j:=w.Cg;let c:=WG w g a2B;cases f:b.has [a2B]
 .rw[Aa AF];rw[f] at c;exact⟨_,_,by simp[Z7,j,c],w.pb,.refl⟩
 .rw[Ae rfl];rw[f] at c;let⟨i,e,d,w1,k⟩:=w.sto (Hk w.pb 19);exact⟨_,_,by simp[Z7,j,c,i,k],e,d⟩
def aVo:GB h F 268 [Pt si 0] (zm []) K (b.WA t):=by
 rw[BS.WA];by_cases i:b.Pv;.rw[Ae i];let B:=w.Cg;let e:=UZ w.pb g;rw[Ah i] at e;let⟨h1,A,f,c,d,D,C⟩:=w.go (aPT w g);exact⟨_,_,by simp[TC,B,e,f],c,d⟩
 rw[Aa i];let E:Gz {b with Fx:=0} n o a:=g.eq rfl rfl rfl rfl rfl;by_cases k:b.Fx=0;.rw[Aa (by simp[k])];let B:=w.Cg;let e:=UZ w.pb g;rw[Ag i] at e;let⟨f,c,d,D,C⟩:=w.sto (vR w.pb 0);exact⟨_,_,by simp[TC,B,e,f,C,Aw k,BR],c,d⟩
 let B:=w.Cg;let e:=UZ w.pb g;rw[Ag i] at e;let⟨f,c,d,D,C⟩:=w.sto (vR w.pb 0);let j:=dr c E 1 b.Fx;cases s:b.GA 1 (Bz b.Fx)
 .rw[Aa AF];rw[show({b with Fx:=0}:BS).GA 1 (Bz b.Fx)=zy from s] at j;exact⟨_,_,by simp[TC,B,e,f,C,k,BR,j],c,d⟩
 .rw[Ae ⟨k,rfl⟩];rw[show({b with Fx:=0}:BS).GA 1 (Bz b.Fx)=z8 from s] at j;let⟨_,h2,F2,H,r,m⟩:=N3 c E [];let p:=D.after r m;let x:=p.Cg;let⟨_,y,z,v,q,l⟩:=dk r (E.I0 Co) b.Fx;let u:=p.after q l;exact⟨_,_,by simp[TC,B,e,f,C,H,x,v,k,BR,j],q,(d.trans m).trans l⟩
end
def aPV(g:Gz b (n+1004) o a)(m:t.Sm)(l:AK t.Al L)(i:¬t.st [a2y]):GB h F 240 [Pt si 0] (zu (b.CM t).2) K (b.CM t).1:=by let k:=w.Cg;let⟨h1,j,f,d,c,w1,l1⟩:=w.go (vU w.pb g m l (λe=>absurd e i));exact⟨_,_,by simp[rU,k,f],d,c⟩
def aVp(g:Gz b (n+8*(4*(o+8)+10)) o a):GB h F 264 [Pt si 0] (zm []) K (b.CJ t.name):=by let i:=w.Cg;let⟨h1,f,e,d,c,w1,l1⟩:=w.go (gM w.pb g t.name);exact⟨_,_,by simp[sD,i,e],d,c⟩
end
def aVq(x:Ad):BF cx 248 [x] h ff h:=by simp[sB]
section
variable(w:SW h K b F si t L)
def aVr(g:Gz b (n+4) o a):GB h F 267 [Pt si 0] (zm []) K (b.M2 t):=by
 unfold BS.M2;dsimp only;by_cases f:t.name=[112]
 .rw[Ae f,Ae f];let c:=WC w.pb g 3 (Cc (ws:=[t.name])) AF;cases i:b.GA 3 (AS [t.name])<;>rw[i] at c
  .rw[Aa AF];let u:=w.Cg;let r:=aBL [112] h;let⟨y,l,j,e,d,v,x⟩:=w.go (Gb (t:=Lj [112]) w.pb g (HM AR) (.inr ⟨rfl,rfl⟩));let⟨h2,F2,A,p,m,q,s⟩:=v.go (vV v (g.Mf (HM AR).Al (HM AR).name) t.name t.name);exact⟨_,_,by simp only[Ac,O5,abS,u,r,j,A,Aw f,c,dw,BR,BK],p,d.trans m⟩
  .rw[Ae rfl];let u:=w.Cg;let⟨y,l,j,e,d,v,x⟩:=w.go (vV w g t.name t.name);exact⟨_,_,by simp only[Ac,O5,abS,u,j,Aw f,c,dw],e,d⟩
 rw[Aa f,Aa f];by_cases k:t.name=[108,105]
 .rw[Ae k];let c:=WC w.pb g 2 (Cc (ws:=[t.name])) AF;cases i:b.GA 2 (AS [t.name])<;>rw[i] at c
  .rw[Aa AF];let u:=w.Cg;exact⟨_,_,by simp only[Ac,O5,abS,u,eq_false f,c,Aw k,dw,BR],w.pb,.refl⟩
  .rw[Ae rfl];let u:=w.Cg;let⟨y,l,j,e,d,v,x⟩:=w.go (vV w g t.name t.name);exact⟨_,_,by simp only[Ac,O5,abS,u,j,f,Aw k,c,dw],e,d⟩
 .rw[Aa k];let c:=WC w.pb g 1 (Cc (ws:=[t.name])) AF;cases i:b.GA 1 (AS [t.name])<;>rw[i] at c
  .rw[Aa AF];let u:=w.Cg;exact⟨_,_,by simp only[Ac,O5,abS,u,f,c,k,dw,BR],w.pb,.refl⟩
  .rw[Ae rfl];let u:=w.Cg;let⟨y,l,j,e,d,v,x⟩:=w.go (vV w g t.name t.name);exact⟨_,_,by simp only[Ac,O5,abS,u,j,f,k,c,dw],e,d⟩
def SW.aK4(a:DE)(c:Ad):Cv h 12 (Pt si 1) (.agg (Bc a c))=zw (h.set si (z1 (Pt K 0::Bc a c)))/\SW (h.set si (z1 (Pt K 0::Bc a c))) K b F si a c/\Dx h (λi=>F i\/i=si) (h.set si (z1 (Pt K 0::Bc a c))) (λi=>F i\/i=si):=by
 let j:=(Aq.1 w.sc).1;refine⟨by rw[Cv,w.sc];rfl,⟨w.pb.Dt λi hi=>?_,AT j,w.no⟩,AF,λi _ f=>?_,λ_ h=> .inl h⟩;.exact Av λe=>w.no (by rwa[show si=i from e])
 .exact Av λe=>f (.inr (e.symm))
def aVs(g:Gz b (n+4*a+4) o a):aBU h F si 269 [Pt si 0] (zm []) K (b.empty (Lj [98,114])):=by let f:=aBL [98,114] h;let⟨k,w,d⟩:=w.aK4 (Lj [98,114]) .slnil;let⟨l,j,e,i,c⟩:=aPR w g (HM AR) (.inr ⟨rfl,rfl⟩);exact⟨l,j,by simp[sE,f,k,e],i,d.trans c⟩
end
def aPW{c n:Nat}{m:Option Nat}{a:List PN}{A:Ar}{e x:Int}(w:PA h c n m a A)(j:OM A)(ok:Fj A e)(b:A.has x):
  ∃M k,BF cx 368 [Pt c 0,I x] h (I 0) M/\PA M c n m k (A.cut x)/\Dx h (λi=>i∈Hh c n m a) M (λi=>i∈Hh c n m k):=by
 let d:=UO (x:=x) w;rw[Ae b] at d;let⟨o,p,g,l,f⟩:=aHw w j ok b;exact⟨o,p,by simp[uD,H8,d,g,BR],l,f⟩
def aPX(w:PB h K b F)(g:Gz b n o a){x:Int}(p:b.a.has x):∃d,A8 h none (Pt K 0)=zw (Pt d 0)/\GB h F 368 [Pt d 0,I x] (I 0) K {b with a:=b.a.cut x}:=by
 obtain⟨d,i,c,tt,G,w,q,rfl⟩:=w;let⟨M,u,r,l,j⟩:=w.step λn m ps f=>let⟨s,t,r,k,e⟩:=aPW f g.rm.V6 g.ok.ok p;⟨s,n,m,t,r,k,e⟩
 exact⟨d,w.l0,M,_,r,⟨d,i,c,tt,u,l,q,rfl⟩,j⟩
def aVt(w:SW h K b F si t L)(g:Gz b (n+4) o a)(ht:t.Sm)(hv:AK t.Al L):GB h F 255 [Pt si 0] (zm []) K (b.Kx t):=by
 rw[BS.Kx];cases e:b.I9
 .rw[Ae (.inl rfl)];let P:=w.Cg;let c:=aBV w;rw[e] at c;exact⟨_,_,by simp[Wb,P,c],w.pb,.refl⟩
 obtain l|l:=Bool.eq_false_or_eq_true b.fs
 rotate_left;.rw[Ae (.inr l)];let P:=w.Cg;let c:=aBV w;rw[e] at c;rw[l] at P;exact⟨_,_,by simp[Wb,P,c],w.pb,.refl⟩
 .rw[Aa (by simp[l])];let U:=g.ok.op _ (S1 e);let P:=w.Cg;rw[l] at P;let c:=aBV w;rw[e] at c;let⟨J,G,Y,u,D,x,v⟩:=aPX w.pb g U.1;let X:=w.after x v;let Z:Gz {b with a:=b.a.cut (Dl b.AJ 1).node} (n+4) o a:=⟨g.ok.IN (XD g.ok.ok U.1 (by rw[U.2];decide)) SF,g.rm.IN Oy,g.AJ,g.AX,g.nm.le SF Oy.n⟩;let a0M:2<=b.AJ.length:=by rw[BS.I9] at e;rw[Bs,Cj] at e;exact e.1
  let Jy:Ev cx 255 [Pt si 0] h λr M=>r= zm []/\∃N,PB M K {({b with a:=b.a.cut (Dl b.AJ 1).node,AJ:=b.AJ.take 1}:BS).C3 t with mode:=20} N/\Dx h F M N:=by
   simp[Ev,Wb,P,c,G,D];refine DD (i:=0) (λn:Nat=>[]) (λn Q=>1<=n/\n<=b.AJ.length/\∃O,PB Q K {b with a:=b.a.cut (Dl b.AJ 1).node,AJ:=b.AJ.take n} O/\Dx Y u Q O) (λn=>n) (λn Q=>∃O,PB Q K {b with a:=b.a.cut (Dl b.AJ 1).node,AJ:=b.AJ.take 1} O/\Dx Y u Q O) b.AJ.length rfl ⟨Ab,Af _,u,Bx▸x,.refl⟩ ?_ ?_
   .rintro j Q ⟨OT,hn,O,d,f⟩;let p:=X.after d f;let q:=p.Cg;let T:=gN d;let y:(b.AJ.take j).length=j:=by rw[Az];omega
    rw[y] at T;let V:Gz {b with a:=b.a.cut (Dl b.AJ 1).node,AJ:=b.AJ.take j} (n+4) (o+1) a:=(Z.le Ab Ab (Af _)).I0 (B8 _ _);by_cases hk:j=1;.subst hk;simp[q,T,(AR:¬1<1)];exact .HT 1 rfl ⟨O,d,f⟩
    .let⟨H,z,s,k,m⟩:=Rq d V;let I:({b with a:=b.a.cut (Dl b.AJ 1).node,AJ:=b.AJ.take j}:BS).Gk={b with a:=b.a.cut (Dl b.AJ 1).node,AJ:=b.AJ.take (j-1)}:=by rw[BS.Gk];rw[y];rw[Aa Ab,FL,CE Ab]
     rw[I] at k;simp[q,T,(Ab:1<(j:Int)),s];exact .next (j-1) rfl ⟨Ab,Ab,z,k,f.trans m⟩ Ab
   .rintro j Q ⟨O,d,f⟩;let p:=X.after d f;let q:=p.Cg;let V:Gz {b with a:=b.a.cut (Dl b.AJ 1).node,AJ:=b.AJ.take 1} (n+4) o a:=Z.I0 (B8 _ _);let⟨H,z,s,k,m,B,l3⟩:=p.go (Gb d V ht hv);let⟨C,E,A⟩:=Hk k 20;simp only[abS,q,s,l3,C];exact⟨_,rfl,rfl,_,E,((v.trans f).trans m).trans A⟩
  obtain⟨r,M,hr,rfl,N,hp,hx⟩:=Jy.ret;exact⟨M,N,hr,hp,hx⟩
end
def kr(p:Aj×Ad):Ad×Ad:=(yu p.1,p.2)
def kf(s:Aj):List (Aj×Ad)->Option Ad
 |[]=>none
 |(t,v)::l=>if s=t then zw v else kf s l
def kp(s:Aj)(v:Ad):List (Aj×Ad)->List (Aj×Ad)
 |[]=>[(s,v)]
 |(t,u)::l=>if s=t then(s,v)::l else(t,u)::kp s v l
def aHU{s t:Aj}{v:Ad}:∀{l:List (Aj×Ad)},kf t (kp s v l)=if t=s then zw v else kf t l
 |[]=>rfl
 |(x,u)::l=>by
  rw[kp];by_cases h:s=x;.rw[Ae h];unfold kf;subst h;split<;>rfl
  .rw[Aa h];unfold kf;rw[aHU];by_cases a:t=x;.subst a;rw[Ae rfl,Ae rfl,Aa (D8 h)]
   .rw[Aa a,Aa a]
def dz{s:Aj}:∀{l:List (Aj×Ad)},Vj s (l.map kr)=zw (kf s l)
 |[]=>rfl
 |(x,u)::l=>by
  rw[Bn,kr,Vj,kf];split;.rfl
  .exact dz
def zl{s:Aj}{v:Ad}:∀{l:List (Aj×Ad)},Px s v (l.map kr)=zw ((kp s v l).map kr)
 |[]=>rfl
 |(x,u)::l=>by
  rw[Bn,kr,Px,kp];split;.rfl
  .rw[show(List.map kr l)=l.map kr from rfl,zl];rfl
def mO{s:Aj}:∀{l:List (Aj×Ad)} {i:Nat},kf s l=none->Um s (l.map kr) i=zw none
 |[],_,_=>rfl
 |(x,u)::l,i,h=>by
  rw[kf] at h;by_cases e:s=x;.rw[Ae e] at h;cases h
  .rw[Aa e] at h;rw[Bn,kr,Um,Aa e];exact mO h
def aBW{s t:Aj}{v:Ad}:∀{l:List (Aj×Ad)},kf s l=none->kf t (l++[(s,v)])=if t=s then zw v else kf t l
 |[],_=>rfl
 |(x,u)::l,h=>by
  rw[kf] at h;by_cases e:s=x;.rw[Ae e] at h;cases h
  .rw[Aa e] at h;simp[CS,kf];rw[aBW h];by_cases a:t=x;.subst a;rw[Ae rfl,Ae rfl,Aa (D8 e)]
   .rw[Aa a,Aa a]
def KM(h:Ak)(a:Nat)(d:Aj->Option Ad):Prop:=∃l,h[a]?=zw (xu (l.map kr))/\∀s,kf s l=d s
def Fr(b:Nat)(h a:Ak):Prop:=h.length<=a.length/\∀i,i<h.length->i≠b->a[i]?=h[i]?
def Fr.refl{a:Nat}{h:Ak}:Fr a h h:=⟨Af _,λ_ _ _=>rfl⟩
def Fr.trans{c:Nat}{h j f:Ak}(a:Fr c h j)(b:Fr c j f):Fr c h f:=⟨BC a.1 b.1,λi e d=>(b.2 i (KK e a.1) d).trans (a.2 i e d)⟩
def Fr.set{a:Nat}{h:Ak}{o:DH}:Fr a h (h.set a o):=⟨AF,λi _ b=>Av (D8 b)⟩
def Fr.If{a:Nat}{h u:Ak}:Fr a h (h++u):=⟨AF,λi b _=>An b⟩
section
variable{h:Ak}{id:Nat}{d:Aj->Option Ad}{s:Aj}{v:Ad}
def KM.lt(w:KM h id d):id<h.length:=let⟨_,b,_⟩:=w;(Aq.1 b).1
def KM.If{u:Ak}(w:KM h id d):KM (h++u) id d:=let⟨l,b,c⟩:=w;⟨l,An w.lt▸b,c⟩
section
variable(w:KM h id d)(s:Aj)
def KM.set(v:Ad):∃c,TU h (xv (zw id)) (yu s) v=zw c/\KM c id (λt=>if t=s then zw v else d t)/\Fr id h c:=by let b:=w.lt;let⟨l,e,f⟩:=w;exact⟨h.set id (xu ((kp s v l).map kr)),by simp[TU,e,zl,Cb],⟨kp s v l,AT b,λt=>by rw[aHU];rw[f]⟩,.set⟩
def KM.get:Rc h y5 zy (xv (zw id)) (yu s)=zw ((d s).getD y5):=by let⟨l,b,c⟩:=w;simp[Rc,Xd,b,dz,Cb,c];cases d s<;>rfl
def KM.entry(o:d s=none)(v:Ad):∃c e n m,EH (.nD y5) h [xv (zw id),yu s]=zw (c,zm [m,I n])/\EH .Qo c [xv (zw id),I n,v]=zw (e,zu z8)/\KM e id (λt=>if t=s then zw v else d t)/\Fr id h e:=by
 let b:=w.lt;let⟨l,p,i⟩:=w;let c:=(i s).trans o;refine⟨h.set id (xu (l.map kr++[(yu s,y5)])),h.set id (xu ((l++[(s,v)]).map kr)),(l.map kr).length,y5,?_,?_,⟨l++[(s,v)],AT b,λt=>?_⟩,.set⟩;.simp only[EH,Zr,p,mO c,Cb]
 .simp only[EH,Vl,AT b,A6,Int.natCast_nonneg,BV,Bu (Af _),Dy,HR,OI,BO _ _ (Af _),NC,BJ,Bn,C1,kr]
 .rw[aBW c];rw[i]
end
def lk:List (List Aj×Ad)->Aj->Option Ad
 |[],_=>none
 |(a,v)::l,s=>if s∈a then zw v else lk l s
def KM.eq{a:Aj->Option Ad}(w:KM h id d)(e:∀s,d s=a s):KM h id a:=let⟨l,c,f⟩:=w;⟨l,c,λs=>(f s).trans (e s)⟩
def KM.push{L:List (List Aj×Ad)}(w:KM h id (λt=>if t=s then zw v else lk L t)):KM h id (lk (([s],v)::L)):=w.eq λt=>by simp[lk,Ax]
def Q6{l:Aj}{d:List Aj}{L:List (List Aj×Ad)}(x:Mm l d)(w:KM h id (lk L))(o:Ad):∃j,BF cx 239 [xv (zw id),yu l,o] h (zm []) j/\KM j id (lk ((d,o)::L))/\Fr id h j:=by
 let hf:=x.few;let A:Ev cx 239 [xv (zw id),yu l,o] h λr j=>r= zm []/\KM j id (lk ((d,o)::L))/\Fr id h j:=by
  rw[Ev];rw[rT];let t:HU d (.sl 1 (d.map BY)):=Cc;let u:(d.map BY).length=d.length:=Ao ..;simp only[By,aBK x h,AY.CQ t];refine DD (i:=0) (λn:Nat=>[I n]) (λn j=>n<=d.length/\KM j id (λs=>if s∈d.take n then zw o else lk L s)/\Fr id h j) (λn=>d.length-n) (λn j=>KM j id (lk ((d,o)::L))/\Fr id h j) 0 rfl ⟨AZ _,w.If.eq λs=>AF,.If⟩ ?_ ?_
  .rintro n j ⟨hn,a,p⟩;by_cases m:n<d.length
   .let f:(d.map BY)[n]'(u▸m)=[yu d[n]]:=by simp[BY]
    let⟨h2,c,e,z⟩:=a.set d[n] o;simp[T6,(Ab:n<d.length),AY.EM t (show n<(d.map BY).length by rwa[u]),f,c,BB n];exact .next (n+1) rfl ⟨m,e.eq λs=>by
     simp only[AG m,AA,Ax];by_cases b:s=d[n];.simp[b]
     .simp[b],p.trans z⟩ Ab
   .simp only[abS,(Ab:¬n<(d.length:Int))];exact .HT n rfl ⟨a.eq λs=>by rw[AL Ab];rfl,p⟩
  .rintro n j ⟨a,p⟩;simp only[By];exact⟨_,rfl,rfl,a,p⟩
 obtain⟨r,j,y,rfl,a,p⟩:=A.ret;exact⟨j,y,a,p⟩
def qf(k:Nat):Ad:= z5 (z7 361) [] [.CO [z5 (z7 k) [] []]]
def Nn(k:Nat)(h:Ak):BF cx 241 [z5 (z7 k) [] []] h (qf k) h:=by simp[rV,qf]
def aPY{k:Nat}{x:Ad}{a:Ak}(b:k<=99999)(r:BF cx k [x] h (zm []) a):BF cx 361 [x,.CO [z5 (z7 k) [] []]] h ff a:=by simp[tW,C6,Br,Ae b,r]
def E9:List (List Aj×Ad):=[(Eu,z5 (z7 240) [] []),(UU,qf 242),(B2,qf 243),(SQ,qf 244),(Pq,qf 245),(Lk,qf 246),(UW,qf 247),(SR,z5 (z7 248) [] []),(qw,qf 249),(gF,qf 250),(Zo,qf 251),(gG,qf 252),(Ww,qf 253),(Ll,qf 254),([a2D],qf 255),([a2R],qf 256),([a2G],qf 257),([[97]],qf 258),([a2P],qf 259),([a2K],qf 260),([a25],qf 261)]
def aVu(h:Ak):∃d,BF cx 113 [] h (xv (zw h.length)) d/\KM d h.length (lk E9.reverse)/\Fr h.length h d:=by
 let Z:KM (h++[xu []]) h.length (lk []):=⟨[],AF,λs=>rfl⟩;let e0:Fr h.length h (h++[xu []]):= .If;let⟨d,J,Y,e1⟩:=Q6 (Pb Bi:Mm a2w Eu) Z (z5 (z7 240) [] []);try dsimp only at J
 let⟨h2,r2,X,e2⟩:=Q6 (Pb Bi:Mm a2C UU) Y (qf 242);try dsimp only at r2
 let⟨h3,I,W,e3⟩:=Q6 (Pb Bi:Mm a2L B2) X (qf 243);try dsimp only at I
 let⟨h4,H,V,e4⟩:=Q6 (Pb Bi:Mm a3B SQ) W (qf 244);try dsimp only at H
 let⟨h5,G,U,e5⟩:=Q6 (Pb Bi:Mm a2F Pq) V (qf 245);try dsimp only at G
 let⟨h6,F,T,e6⟩:=Q6 (Pb Bi:Mm a2M Lk) U (qf 246);try dsimp only at F
 let⟨h7,E,S,e7⟩:=Q6 (Pb Bi:Mm a26 UW) T (qf 247);try dsimp only at E
 let⟨h8,D,R,e8⟩:=Q6 (Pb Bi:Mm a2E SR) S (z5 (z7 248) [] []);try dsimp only at D
 let⟨h9,C,Q,e9⟩:=Q6 (Pb Bi:Mm a3r qw) R (qf 249);try dsimp only at C
 let⟨Wj,cm,Ik,B⟩:=Q6 (Pb Bi:Mm a4w gF) Q (qf 250);try dsimp only at cm
 let⟨cQ,e,LC,A⟩:=Q6 (Pb Bi:Mm a4c Zo) Ik (qf 251);try dsimp only at e
 let⟨h12,c,Md,z⟩:=Q6 (Pb Bi:Mm a4Y gG) LC (qf 252);try dsimp only at c
 let⟨h13,b,Ml,y⟩:=Q6 (Pb Bi:Mm a2Y Ww) Md (qf 253);try dsimp only at b
 let⟨h14,a,Oq,x⟩:=Q6 (Pb Bi:Mm a4R Ll) Ml (qf 254);try dsimp only at a
 let⟨P,h15,N,L,m,t15,P5,w⟩:=Oq.entry a2D Bi (qf 255);replace P5:=P5.push;let⟨h16,l,Ro,u⟩:=P5.set a2R (qf 256);replace Ro:=Ro.push;let⟨h17,k,SP,t⟩:=Ro.set a2G (qf 257);replace SP:=SP.push;let⟨O,h18,M,K,j,t18,RD,r⟩:=SP.entry [97] Bi (qf 258);replace RD:=RD.push;let⟨h19,i,Wu,q⟩:=RD.set a2P (qf 259);replace Wu:=Wu.push;let⟨h20,g,YJ,p⟩:=Wu.set a2K (qf 260);replace YJ:=YJ.push;let⟨n,f,v,o⟩:=YJ.set a25 (qf 261);replace v:=v.push;exact⟨n,by simp[-List.append_assoc,pY,J,r2,Nn 242 _,I,Nn 243 _,H,Nn 244 _,G,Nn 245 _,F,Nn 246 _,E,Nn 247 _,D,C,Nn 249 _,cm,Nn 250 _,e,Nn 251 _,c,Nn 252 _,b,Nn 253 _,a,Nn 254 _,m,t15,Nn 255 _,l,Nn 256 _,k,Nn 257 _,j,t18,Nn 258 _,i,Nn 259 _,g,Nn 260 _,f,Nn 261 _],v,((((((((((((((((((((e0.trans e1).trans e2).trans e3).trans e4).trans e5).trans e6).trans e7).trans e8).trans e9).trans B).trans A).trans z).trans y).trans x).trans w).trans u).trans t).trans r).trans q).trans p).trans o⟩
def RF:List (List Aj×Ad):=[([a2z],z5 (z7 240) [] []),([a2B],z5 (z7 262) [] []),([a2y],z5 (z7 262) [] []),(Q4,qf 263),(Wx,qf 264),(B2,qf 265),(Lk,qf 266),(SU,qf 267),([a2R],qf 268),([[98,114]],qf 269)]
def aVv(h:Ak):∃d,BF cx 114 [] h (xv (zw h.length)) d/\KM d h.length (lk RF.reverse)/\Fr h.length h d:=by
 let y:KM (h++[xu []]) h.length (lk []):=⟨[],AF,λs=>rfl⟩;let R:Fr h.length h (h++[xu []]):= .If;let⟨d,q,f,H⟩:=y.set a2z (z5 (z7 240) [] []);replace f:=f.push;let⟨h2,p,e,G⟩:=f.set a2B (z5 (z7 262) [] []);replace e:=e.push;let⟨O,o,c,F⟩:=e.set a2y (z5 (z7 262) [] []);replace c:=c.push;let⟨N,m,x,E⟩:=Q6 (Pb Bi:Mm a2A Q4) c (qf 263);try dsimp only at m
 let⟨M,l,w,D⟩:=Q6 (Pb Bi:Mm a3b Wx) x (qf 264);try dsimp only at l
 let⟨L,k,u,C⟩:=Q6 (Pb Bi:Mm a2L B2) w (qf 265);try dsimp only at k
 let⟨K,j,t,B⟩:=Q6 (Pb Bi:Mm a2M Lk) u (qf 266);try dsimp only at j
 let⟨J,i,r,A⟩:=Q6 (Pb Bi:Mm a4I SU) t (qf 267);try dsimp only at i
 let⟨I,n,b,z⟩:=r.set a2R (qf 268);replace b:=b.push;let⟨T,a,v,g⟩:=b.set [98,114] (qf 269);replace v:=v.push;exact⟨T,by simp[-List.append_assoc,pZ,q,p,o,m,Nn 263 _,l,Nn 264 _,k,Nn 265 _,j,Nn 266 _,i,Nn 267 _,n,Nn 268 _,a,Nn 269 _],v,(((((((((R.trans H).trans G).trans F).trans E).trans D).trans C).trans B).trans A).trans z).trans g⟩
def aBX:∀{L M:List (List Aj×Ad)},lk (L++M) s=(lk L s).or (lk M s)
 |[],M=>by simp[lk]
 |(ws,v)::L,M=>by
  simp[CS,lk];split;.rfl
  .exact aBX
def zn:∀{L:List (List Aj×Ad)},(∀g∈L,s∉g.1)->lk L s=none
 |[],_=>rfl
 |(a,v)::L,h=>by rw[lk];exact Aa (h (a,v) (.head _))▸zn λg b=>h g (.tail _ b)
def rl:∀{L:List (List Aj×Ad)},L.Pairwise (λa b=>∀x∈a.1,x∉b.1)->lk L.reverse s=lk L s
 |[],_=>rfl
 |(d,v)::L,h=>by
  cases h with
  |cons i f=>
   simp[Fw,aBX,rl f,lk];by_cases c:s∈d;.rw[Ae c,Ae c,zn λg e=>i g e s c];rfl
   .rw[Aa c,Aa c];cases lk L s<;>rfl
def aBY:lk E9.reverse s=lk E9 s:=rl Bi
def aK5:lk RF.reverse s=lk RF s:=rl Bi
end
section
variable{h A:Ak}{v si:Nat}{b z:BS}{F B:Nat->Prop}{n o a:Nat}{t:DE}{av:Ad}
def GL(v:Nat)(t:DE)(a:Ad):DH:= z1 (Pt v 0::Bc t a)
def SW.new(w:PB h v b F)(t:DE)(a:Ad):SW (h++[GL v t a]) v b F h.length t a:=
 ⟨w.If,by simp[GL],λc=>DT _ (w.lt c)⟩
def SW.fr(w:SW h v b F si t av){a:Nat}(Jo:h.length<=a)(f:Fr a h A):SW A v b F si t av:=have d:=(Aq.1 w.sc).1;⟨w.pb.Dt λi c=>f.2 i (w.pb.lt c) (by have:=w.pb.lt c;omega),f.2 si d Ab▸w.sc,w.no⟩
def L7{k a:Ak}{id:Nat}{x:DH}(Jo:(h++[x]).length<=id)(f:Fr id (h++[x]) k)(e:Dx k (λi=>F i\/i=h.length) a (λi=>B i\/i=h.length)):Dx h F a B:=by
 let l1:(h++[x]).length=h.length+1:=AF;let c:=f.1;let l3:=e.len;refine⟨Ab,λi d b=>?_,λi j=>?_⟩;.rw[e.old i Ab (λh=>by obtain h|h:=h;exact b h;omega),f.2 i Ab Ab,An d]
 .rcases e.BD i (.inl j) with(h1|h1)|h1
  .exact .inl h1
  .exact .inr Ab
  .exact .inr Ab
def rq(a:Ak):∃b,BF cx 113 [] a (xv (zw a.length)) b/\Fr a.length a b/\∀s,Rc b y5 zy (xv (zw a.length)) (yu s)=zw ((lk E9 s).getD y5):=let⟨b,r,k,f⟩:=aVu a;⟨b,r,f,λs=>by rw[k.get,aBY]⟩
def aK6(a:Ak):∃b,BF cx 114 [] a (xv (zw a.length)) b/\Fr a.length a b/\∀s,Rc b y5 zy (xv (zw a.length)) (yu s)=zw ((lk RF s).getD y5):=let⟨b,r,k,f⟩:=aVv a;⟨b,r,f,λs=>by rw[k.get,aK5]⟩
def j0{k:Int}(hk:t.k=k)(h:1<=k/\k<=6):t.ok:=by rw[DE.ok];omega
def Q7{k:Nat}{x y:List Ad}:AB (.GH z8 .fn) [z5 (z7 k) x y,y5]=zw tt:=rfl
def gT:AB (.GH z8 .fn) [y5,y5]=zw ff:=rfl
section
variable(w:PB h v b F)
def Qe(n:t.k=2){k:Nat}(e:lk E9 t.name=zw (qf k))(g:k<=99999)(d:∀a,SW a v b F h.length t av->aBU a F h.length k [Pt h.length 0] (zm []) v z):GB h F 30 [Pt v 0,.agg (Bc t av)] ff v z:=by let q:=SW.new w t av;let⟨a,i,o,u⟩:=rq (h++[GL v t av]);let p:=q.fr (Af _) o;let⟨s,x,r,l,j⟩:=d a p;let f:=Ln w t av;rw[Ah (j0 n AR)] at f;let c:=u t.name;rw[e] at c;exact⟨s,x,by rw[Ac,LY,ì];simp only[GL,Bc,n,As,Bg,BH] at i f c;simp[AP,Bc,Q7,f,n,Jq,i,c,EF,qf,C6,Br,aPY g r],l,L7 (Af _) o j⟩
def aPZ(n:t.k=2){k:Nat}{r:Bool}(e:lk E9 t.name=zw (z5 (z7 k) [] []))(g:k<=99999)(d:∀a,SW a v b F h.length t av->GB a F k [Pt h.length 0] (zu r) v z):GB h F 30 [Pt v 0,.agg (Bc t av)] (zu r) v z:=by let q:=SW.new w t av;let⟨a,i,o,x⟩:=rq (h++[GL v t av]);let p:=q.fr (Af _) o;let⟨u,y,s,l,j⟩:=(d a p).KO (si:=h.length);let f:=Ln w t av;rw[Ah (j0 n AR)] at f;let c:=x t.name;rw[e] at c;exact⟨u,y,by rw[Ac,LY,ì];simp only[GL,Bc,n,As,Bg,BH] at i f c;simp[AP,Bc,Q7,f,n,Jq,i,c,EF,C6,Br,g,s],l,L7 (Af _) o j⟩
def aVw(g:Gz b (n+4*a+4) o a)(D:t.Sm)(C:AK t.Al av)(x:t.k=2)(e:lk E9 t.name=none):GB h F 30 [Pt v 0,.agg (Bc t av)] ff v (b.A4.C3 t):=by let A:=SW.new w t av;let⟨h1,i,y,E⟩:=rq (h++[GL v t av]);let z:=A.fr (Af _) y;let j:Gz b (n+4+4*a) o a:=g.dn Ab;let⟨h2,F2,B,q,m⟩:=Dm z.pb j;let⟨r,s,f,p,l⟩:=Gb q j.A4 D C;let d:=Ln w t av;rw[Ah (j0 x AR)] at d;let c:=E t.name;rw[e] at c;exact⟨r,s,by rw[Ac,LY,ì];simp only[GL,Bc,x,As,Bg,BH] at i d c f;simp[AP,Bc,gT,d,x,Jq,i,c,WW,B,f],p,L7 (Af _) y (m.trans l).gS⟩
def r_(n:t.k=3){k:Nat}(e:lk RF t.name=zw (qf k))(g:k<=99999)(d:∀a,SW a v b F h.length t av->aBU a F h.length k [Pt h.length 0] (zm []) v z):GB h F 30 [Pt v 0,.agg (Bc t av)] ff v z:=by let q:=SW.new w t av;let⟨a,i,o,u⟩:=aK6 (h++[GL v t av]);let p:=q.fr (Af _) o;let⟨s,x,r,l,j⟩:=d a p;let f:=Ln w t av;rw[Ah (j0 n AR)] at f;let c:=u t.name;rw[e] at c;exact⟨s,x,by rw[Ac,LY,ì];simp only[GL,Bc,n,As,Bg,BH] at i f c;simp[AP,Bc,Q7,f,n,Jq,i,c,EF,qf,C6,Br,aPY g r],l,L7 (Af _) o j⟩
def aK7(n:t.k=3){k:Nat}{r:Bool}(e:lk RF t.name=zw (z5 (z7 k) [] []))(g:k<=99999)(d:∀a,SW a v b F h.length t av->GB a F k [Pt h.length 0] (zu r) v z):GB h F 30 [Pt v 0,.agg (Bc t av)] (zu r) v z:=by let q:=SW.new w t av;let⟨a,i,o,x⟩:=aK6 (h++[GL v t av]);let p:=q.fr (Af _) o;let⟨u,y,s,l,j⟩:=(d a p).KO (si:=h.length);let f:=Ln w t av;rw[Ah (j0 n AR)] at f;let c:=x t.name;rw[e] at c;exact⟨u,y,by rw[Ac,LY,ì];simp only[GL,Bc,n,As,Bg,BH] at i f c;simp[AP,Bc,Q7,f,n,Jq,i,c,EF,C6,Br,g,s],l,L7 (Af _) o j⟩
def aVx(g:Gz b n o a)(l:t.k=3)(e:lk RF t.name=none):GB h F 30 [Pt v 0,.agg (Bc t av)] ff v (b.CZ t.name):=by let r:=SW.new w t av;let⟨h1,f,p,x⟩:=aK6 (h++[GL v t av]);let q:=r.fr (Af _) p;let⟨u,y,s,j,i⟩:=aBF q.pb g t.name;let d:=Ln w t av;rw[Ah (j0 l AR)] at d;let c:=x t.name;rw[e] at c;exact⟨u,y,by rw[Ac,LY,ì];simp only[GL,Bc,l,As,Bg,BH] at f d c;simp[AP,Bc,gT,d,l,Jq,f,c,WW,s],j,L7 (Af _) p i.gS⟩
end
def aF9:lk E9 a2y=zw (qf 254):=by rw[E9,lk];rfl
section
variable(w:PB h v b F)
def Qf(g:Gz b (n+1000) o a)(j:t.Sm)(i:AK t.Al av)(c:t.st [a2y]):GB h F 30 [Pt v 0,.agg (Bc t av)] ff v (b.Hq t):=by
 let d:=Ax.1 c.2;let e:b.Hq t=b.MK t:=by unfold BS.Hq BS.MK;rw[Ae d]
 exact e▸Qe w c.1 (d▸aF9) AR λh1 f=>(aPS f g j i).KO
section
variable(g:Gz b (n+8*(4*(o+a+8)+10)+8*a+2000) o a)
def sd(y:t.Sm)(x:AK t.Al av)(u:t.k=2):GB h F 30 [Pt v 0,.agg (Bc t av)] (zu (b.opens t).2) v (b.opens t).1:=by
 let A:∀{m},m<=n+8*(4*(o+a+8)+10)+8*a+2000->Gz b m o a:=λh=>g.dn h;rw[BS.opens];by_cases c:t.name∈Eu;.rw[Ae c];exact aPZ w u (by simp[E9,lk,Ax,c]) AR λz s=>aPV s (n:=n) (A Ab) y x λO=>absurd (Ax.1 O.2▸c:a2y∈Eu) Bi
 rw[Aa c];by_cases d:t.name∈UU;.rw[Ae d];exact Qe w u (by simp[E9,lk,c,d]) AR λz s=>(aBT s (n:=n) (A Ab) y x).KO
 rw[Aa d];by_cases e:t.name∈B2;.rw[Ae e];exact Qe w u (by simp[E9,lk,c,d,e]) AR λz s=>(aU6 s (n:=n) (A Ab) y x).KO
 rw[Aa e];by_cases f:t.name∈SQ;.rw[Ae f];exact Qe w u (by simp[E9,lk,c,d,e,f]) AR λz s=>(aU7 s (n:=n) (A Ab) y x).KO
 rw[Aa f];by_cases i:t.name∈Pq;.rw[Ae i];exact Qe w u (by simp[E9,lk,c,d,e,f,i]) AR λz s=>(aKX s (n:=n) (A Ab) y x).KO
 rw[Aa i];by_cases j:t.name∈Lk;.rw[Ae j];exact Qe w u (by simp[E9,lk,c,d,e,f,i,j]) AR λz s=>(aVa s (n:=n) (A Ab) y x).KO
 rw[Aa j];by_cases l:t.name∈UW;.rw[Ae l];exact Qe w u (by simp[E9,lk,c,d,e,f,i,j,l]) AR λz s=>aPR s (n:=n) (A Ab) y x
 rw[Aa l];by_cases p:t.name∈SR;.rw[Ae p];exact aPZ w u (by simp[E9,lk,c,d,e,f,i,j,l,p]) AR λz s=>⟨z,F,aVq _,s.pb,.refl⟩
 rw[Aa p];by_cases q:t.name∈qw;.rw[Ae q];exact Qe w u (by simp[E9,lk,c,d,e,f,i,j,l,p,q]) AR λz s=>(aVg s (n:=n) (A Ab) y x).KO
 rw[Aa q];by_cases r:t.name∈gF;.rw[Ae r];exact Qe w u (by simp[E9,lk,c,d,e,f,i,j,l,p,q,r]) AR λz s=>(aVj s (n:=n) (A Ab) y x).KO
 rw[Aa r];by_cases B:t.name∈Zo;.rw[Ae B];exact Qe w u (by simp[E9,lk,c,d,e,f,i,j,l,p,q,r,B]) AR λz s=>(aVk s (n:=n) (A Ab) y x).KO
 rw[Aa B];by_cases C:t.name∈gG;.rw[Ae C];exact Qe w u (by simp[E9,lk,c,d,e,f,i,j,l,p,q,r,B,C]) AR λz s=>(aVd s (n:=n) (A Ab) y x).KO
 rw[Aa C];by_cases D:t.name∈Ww;.rw[Ae D];exact Qe w u (by simp[E9,lk,c,d,e,f,i,j,l,p,q,r,B,C,D]) AR λz s=>(aVi s (n:=n) (A Ab) y x).KO
 rw[Aa D];by_cases E:t.name∈Ll;.rw[Ae E];exact Qe w u (by simp[E9,lk,c,d,e,f,i,j,l,p,q,r,B,C,D,E]) AR λz s=>(aPS s (n:=n) (A Ab) y x).KO
 rw[Aa E];by_cases G:t.name=a2D;.rw[Ae G];exact Qe w u (by simp[E9,lk,Ax,c,d,e,f,i,j,l,p,q,r,B,C,D,E,Aw G]) AR λz s=>(aVt s (n:=n) (A Ab) y x).KO
 rw[Aa G];by_cases H:t.name=a2R;.rw[Ae H];exact Qe w u (by simp[E9,lk,Ax,c,d,e,f,i,j,l,p,q,r,B,C,D,E,G,Aw H]) AR λz s=>(aU8 s (n:=n) (A Ab) y x).KO
 rw[Aa H];by_cases J:t.name=a2G;.rw[Ae J];exact Qe w u (by simp[E9,lk,Ax,c,d,e,f,i,j,l,p,q,r,B,C,D,E,G,H,Aw J]) AR λz s=>(aU9 s (n:=n) (A Ab) y x).KO
 rw[Aa J];by_cases K:t.name=[97];.rw[Ae K];exact Qe w u (by simp[E9,lk,Ax,c,d,e,f,i,j,l,p,q,r,B,C,D,E,G,H,J,Aw K]) AR λz s=>(aVe s (n:=n) (A Ab) y x).KO
 rw[Aa K];by_cases L:t.name=a2P;.rw[Ae L];exact Qe w u (by simp[E9,lk,Ax,c,d,e,f,i,j,l,p,q,r,B,C,D,E,G,H,J,K,Aw L]) AR λz s=>(aVb s (n:=n) (A Ab) y x).KO
 rw[Aa L];by_cases M:t.name=a2K;.rw[Ae M];exact Qe w u (by simp[E9,lk,Ax,c,d,e,f,i,j,l,p,q,r,B,C,D,E,G,H,J,K,L,Aw M]) AR λz s=>(aVc s (n:=n) (A Ab) y x).KO
 rw[Aa M];by_cases N:t.name=a25;.rw[Ae N];exact Qe w u (by simp[E9,lk,Ax,c,d,e,f,i,j,l,p,q,r,B,C,D,E,G,H,J,K,L,M,Aw N]) AR λz s=>(aVh s (n:=n) (A Ab) y x).KO
 exact Aa N▸aVw w (n:=n) (A Ab) y x u (by simp[E9,lk,Ax,c,d,e,f,i,j,l,p,q,r,B,C,D,E,G,H,J,K,L,M,N])
def d_(D:t.Sm)(C:AK t.Al av)(y:t.k=3):GB h F 30 [Pt v 0,.agg (Bc t av)] (zu (b.Lm t).2) v (b.Lm t).1:=by
 let z:∀{m},m<=n+8*(4*(o+a+8)+10)+8*a+2000->Gz b m o a:=λh=>g.dn h;rw[BS.Lm];by_cases u:t.name=AE;.rw[Ae u];exact aK7 w y (by rw[u,RF,lk];rfl) AR λA x=>aPV x (n:=n) (z Ab) D C λB=>by have:=B.1;omega
 rw[Aa u];by_cases s:t.name∈Ll
 .rw[Ae s];let q:t.name=a2y\/t.name=a2B:=by simpa[Ll] using s
  obtain q|q:=q
  .exact aK7 w y (by rw[q,RF,lk];rfl) AR λA x=>aPU x (n:=n) (z Ab)
  .exact aK7 w y (by rw[q,RF,lk];rfl) AR λA x=>aPU x (n:=n) (z Ab)
 rw[Aa s];let d:¬t.name=a2y/\¬t.name=a2B:=by simpa[Ll] using s
 let c:=u;by_cases e:t.name∈Q4;.rw[Ae e];exact r_ w y (by simp[RF,lk,Ax,c,d.1,d.2,e]) AR λA x=>(aPT x (n:=n) (z Ab)).KO
 rw[Aa e];by_cases f:t.name∈Wx;.rw[Ae f];exact r_ w y (by simp[RF,lk,Ax,c,d.1,d.2,e,f]) AR λA x=>(aVp x (n:=n) (z Ab)).KO
 rw[Aa f];by_cases i:t.name∈B2;.rw[Ae i];exact r_ w y (by simp[RF,lk,Ax,c,d.1,d.2,e,f,i]) AR λA x=>(aVn x (n:=n) (z Ab)).KO
 rw[Aa i];by_cases j:t.name∈Lk;.rw[Ae j];exact r_ w y (by simp[RF,lk,Ax,c,d.1,d.2,e,f,i,j]) AR λA x=>(aVm x (n:=n) (z Ab)).KO
 rw[Aa j];by_cases l:t.name∈SU;.rw[Ae l];exact r_ w y (by simp[RF,lk,Ax,c,d.1,d.2,e,f,i,j,l]) AR λA x=>(aVr x (n:=n) (z Ab)).KO
 rw[Aa l];by_cases p:t.name=a2R;.rw[Ae p];exact r_ w y (by simp[RF,lk,Ax,c,d.1,d.2,e,f,i,j,l,Aw p]) AR λA x=>(aVo x (n:=n) (z Ab)).KO
 rw[Aa p];by_cases r:t.name=[98,114];.rw[Ae r];exact r_ w y (by simp[RF,lk,Ax,c,d.1,d.2,e,f,i,j,l,p,Aw r]) AR λA x=>(aVs x (n:=n) (z Ab))
 exact Aa r▸aVx w (n:=n) (z Ab) y (by simp[RF,lk,Ax,c,d.1,d.2,e,f,i,j,l,p,r])
end
end
def aK8(w:PB h v b F)(g:Gz b n o a):GB h F 117 [Pt v 0] (zm []) v b.c_:=by
 let p:=g.rm.tm;obtain⟨i,f,c,tt,G,w,B,rfl⟩:=w;let z:=w.t.1.len;let A:=w.l6;by_cases u:b.tm=[]
 .let e:b.c_=b:=by
   rw[BS.c_];have:b.tm.dropLast=b.tm:=by rw[u];rfl
   rw[this]
  refine⟨h,_,?_,⟨i,f,c,tt,G,by rwa[e],e▸B,rfl⟩,.refl⟩;let d:AB (.len zy) [tt]=zw (I 0):=by rw[z,u];rfl
  simp[ZK,A,d,Kf]
 .let s:=Du.2 u;let⟨r,q,y⟩:=AY.Ms (w.t.1.ne u) (k:= y8) (n:=b.tm.length-1) Ab;rw[<-Lr] at y;let⟨l,m,x⟩:=aBl (.inl y) ES h;let j:=w.fQ x;exact⟨_,_,by simp only[Ac,ZK,By,A,z,(Ab:0<(b.tm.length:Int)),IK s (Ab:b.tm.length<9223372036854775807),q,m,w.st (k:=6) rfl x.1.cells,Kf],⟨i,f,c,l,G,j,B,rfl⟩,Be⟩
section
variable(w:PB h v b F)
def mP(g:Gz b (n+4*a+5) o a)(l:t.Sm)(f:t.k=5):GB h F 30 [Pt v 0,.agg (Bc t av)] ff v (b.Rp t):=by let j:=SW.new w t av;let⟨m,p,i,e,d⟩:=(aVl j g l).KO (si:=h.length);let c:=Ln w t av;rw[Ah (j0 f AR)] at c;exact⟨m,p,by rw[Ac,LY,ì];simp only[GL,Bc,f] at i c;simp[AP,Bc,c,f,i],e,L7 (Af _) .refl d⟩
def WH(g:Gz b (n+1) o a)(l:t.Sm)(f:t.k=4):GB h F 30 [Pt v 0,.agg (Bc t av)] ff v (b.DL t.data 0):=by let j:=SW.new w t av;let⟨m,p,i,e,d⟩:=N2 j.pb g (BC l.data AR) 0;let c:=Ln w t av;rw[Ah (j0 f AR)] at c;exact⟨m,p,by rw[Ac,LY,ì];simp only[GL,Bc,f] at i c;simp[AP,Bc,c,f,i,Jq],e,L7 (id:=h.length+1) AF .refl d.gS⟩
def ee(a:t.k=1):GB h F 30 [Pt v 0,.agg (Bc t av)] ff v b:=by let d:=SW.new w t av;let c:=Ln w t av;rw[Ah (j0 a AR)] at c;exact⟨_,F,by rw[Ac,LY,ì];simp only[GL,Bc,a] at c⊢;simp[AP,c,Jq],d.pb,L7 (id:=h.length+1) AF .refl (Dx.refl.gS)⟩
def aBZ(a:¬t.ok):GB h F 30 [Pt v 0,.agg (Bc t av)] ff v b:=by let c:=Ln w t av;rw[Ag a] at c;exact⟨_,F,by rw[Ac,LY,ì];rw[Bc] at c;simp[AP,Bc,c],w,.refl⟩
end
end
section
variable{h u:Ak}{bi k:Nat}{cs:List Ad}{v:Ad}
def Ą(a:k<cs.length):cs.take k++[v]++cs.drop (k+1)=cs.set k v:=by rw[B0,Ae a];simp
section
variable(a:bi<h.length)
def gU:(h.set bi (z1 cs)++u)[bi]?=zw (z1 cs):=by rw[An (zv a),AT a]
def vW{x y:DH}:(h.set bi x++u).set bi y=h.set bi y++u:=by rw[aRb _ _ (zv a),OI]
def aGa:A8 (h.set bi (z1 cs)++u) none (Pt bi k)=cs[k]?:=by simp[A8,gU a,Fg]
def gV(b:v.cells=[v])(d:k<cs.length):Cv (h.set bi (z1 cs)++u) 1 (Pt bi k) v=zw (h.set bi (z1 (cs.set k v))++u):=by simp only[Cv,gU a,b,A5];rw[Ae ⟨trivial,Ab⟩,Ą d,vW a]
def aVy(b:4<cs.length)m:BF cx 101 [Pt bi 0,I m] (h.set bi (z1 cs)++u) tt (h.set bi (z1 (cs.set 4 (I m)))++u):=by let e:=gV (u:=u) (v:= I m) a rfl b;simp[ZI,e]
end
def WI(l:List Int):(l.map BM).flatten=l.map (Ad.int y8):=by
 induction l with
 |nil=>rfl
 |cons x l a=>rw[Bn,Dk,a];rfl
def aVz(l:List Int)(h:Ak)(hb:l.length<=1000000000):∃v u,BF cx 200110 [.sl 1 (l.map BM)] h v (h++u)/\((l=[]/\v= .FT 1/\u=[])\/(l≠[]/\v= .CK h.length 0 l.length 1/\u=[z1 (l.map (Ad.int y8))])):=by
 let hm:=hK;cases l
 .exact⟨.FT 1,[],by rw[Br,Ac,QV];let c:KF h 1 8 (.FT 1) (.sl 1 [])=zw (h,.FT 1):=rfl;simp[C1,show AB (.GH zy .sl) [.sl 1 [],.slnil]=zw (zu zy) from rfl,show AB (.FT 1) []=zw (.FT 1) from rfl,c],.inl ⟨rfl,rfl,rfl⟩⟩
 next x l=>
  refine⟨_,_,?_,.inr ⟨AF,rfl,rfl⟩⟩;let c:KF h 1 8 (.FT 1) (.sl 1 ((x::l).map BM))=zw (h++[z1 ((x::l).map (Ad.int y8))],.CK h.length 0 (x::l).length 1):=by
   let a:((x::l).map BM).length*8<=AN:=by rw[Ao];omega
   rw[<-WI];rw[Bn] at a⊢;simp only[KF,Qq,beq_self_eq_true,BV];rw[Ae ⟨trivial,a⟩];simp
  simp only[Ac,QV,By,show AB (.GH zy .sl) [.sl 1 ((x::l).map BM),.slnil]=zw (zu zy) from rfl,show AB (.FT 1) []=zw (.FT 1) from rfl,c]
end
section
variable{h h':Ak}{Z:Nat}{b b':BS}{F F':Nat->Prop}{n o a:Nat}
def aB0(w:PB h Z b F)(g:Gz b n o a)m:GB h F 115 [Pt Z 0,I m] tt Z (b.Ey m).1:=by
 have P:=g.rm.tm;let w0:=w;obtain⟨Y,O,c,d,G,w,hc,rfl⟩:=w;let hl:=w.lt;obtain⟨cs,hcs⟩:∃cs,cs=J4 Y b O c d:=⟨_,rfl⟩;let hb:=w.hb;rw[<-hcs] at hb;have hcl:cs.length=20:=by rw[hcs];rfl
 let S:cs[6]?=zw d:=by rw[hcs];rfl
 let e0:h=h.set Z (z1 cs)++[]:=by rw[Br,VM hb]
 let lt:=w.t.1.len;let x:A8 h none (Pt Z 6)=zw d:=w.l6;obtain⟨l,ň⟩:∃l,l=b.tm.dropLast:=⟨_,rfl⟩;have Q:l.length=b.tm.length-1:=by rw[ň];simp
 obtain⟨v,u,hv,p,L⟩:∃v u,((l=[]/\(v= .FT 1\/v= .slnil)/\u=[])\/(l≠[]/\v= .CK h.length 0 l.length 1/\u=[y2 (l.map (Ad.int y8))]))/\v.cells=[v]/\
   BF cx 100117 [Pt Z 0] h (zm []) (h.set Z (z1 (cs.set 6 v))++u):=by
  by_cases hne:b.tm=[]
  .let E:=w.t;rw[hne] at E;let A:AB (.len zy) [d]=zw (I 0):=by rw[lt,hne];rfl
   refine⟨d,[],.inl ⟨by rw[ň,hne];rfl,?_,rfl⟩,E.1.cells,?_⟩
   .rcases E with⟨q|⟨q,_⟩,R⟩
    .rcases(q) with q|⟨q,_⟩
     .exact absurd q R
     .exact .inr q
    .exact .inl q
   .let es:cs.set 6 d=cs:=by let⟨Wj,cQ⟩:=Aq.1 S;rw[<-cQ,IW]
    rw[es,<-e0,Ac,QT];simp[x,A,Kf]
  .let hpos:=Du.2 hne;let C:d= .sl 1 (b.tm.map BM):=by
    rcases(w.t.1.ne hne) with e|⟨_,e⟩
    .exact e
    .exact absurd (by simpa using e) hne
   let es:AB (.LK 1 zy zy z8) [d,I (b.tm.length-1:Nat)]=zw (.sl 1 (l.map BM)):=by
    let H:Fv (b.tm.length-1:Nat) (b.tm.map BM).length=zw (b.tm.length-1):=by rw[Fv];rw[Ao,Ae Ab];rfl
    simp only[C,ň,Lr,AB,Kg,En,H,Cb,iK,BV,HK,E1]
   let⟨v,u,M,hv⟩:=aVz l h Ab;let p:v.cells=[v]:=by rcases hv with⟨_,rfl,_⟩|⟨_,rfl,_⟩<;>rfl
   let H:h++u=h.set Z (z1 cs)++u:=by rw[VM hb]
   let y:Cv (h++u) 1 (Pt Z 6) v=zw (h.set Z (z1 (cs.set 6 v))++u):=H▸gV hl p Ab
   exact⟨v,u,hv.imp (λh=>⟨h.1,.inl h.2.1,h.2.2⟩) id,p,by rw[Ac,QT];simp only[abS,x,lt,(Ab:(0:Int)<(b.tm.length:Int)),IK hpos (Ab:b.tm.length<9223372036854775807),es,M,y]⟩
 let B:A8 (h.set Z (z1 (cs.set 6 v))++u) none (Pt Z 6)=zw v:=by rw[aGa hl,AT Ab]
 let em:AB (.Df 1) [I m]=zw (.sl 1 [[I m]]):=rfl;have a06:=hK;obtain⟨id,r,j,V,hfz⟩:∃(id:Nat) (r j:Ak),Gq (h.set Z (z1 (cs.set 6 v))++u) 1 8 v (.sl 1 [[I m]])=zw (h.set Z (z1 (cs.set 6 v))++r,.CK id 0 (l.length+1) 1)/\∀ds:List Ad,LH (h.set Z (z1 ds)++r) (.CK id 0 (l.length+1) 1)=zw (h.set Z (z1 ds)++j,.sl 1 ((l++[m]).map BM)):=by
  rcases hv with⟨h0,gp,rfl⟩|⟨h0,rfl,rfl⟩
  .refine⟨h.length,[z1 [I m]],[.CV],?_,λds=>?_⟩
   .rw[h0,Br];obtain rfl|rfl:=gp
    .simp[Gq,Hy];omega
    .simp[Gq,Hy];omega
   .rw[h0];let hg:(h.set Z (z1 ds)++[z1 [I m]])[h.length]?=zw (z1 [I m]):=by rw[Bu AF];simp
    simp only[LH,hg,BH,B1];rw[Ae AF];congr 2
    rw[BO _ _ AF];simp
  .refine⟨h.length+1,[.CV,z1 ((l++[m]).map (Ad.int y8))],[.CV,.CV],?_,λds=>?_⟩
   .let hg:(h.set Z (z1 (cs.set 6 (.CK h.length 0 l.length 1)))++[z1 (l.map (Ad.int y8))])[h.length]?=zw (z1 (l.map BM).flatten):=by rw[Bu AF,WI];simp
    have:=JZ (b:=8) (r2:=[[I m]]) (LU (f:=BM) (λa=>rfl) l) AR hg .mk AF ES;rw[Ao] at this;rw[this];congr 2
    .rw[BO _ _ AF];have:([m].map (Ad.int y8))=[[I m]].flatten:=rfl;simp[WI]
    .simp
   .let hg:(h.set Z (z1 ds)++[DH.CV,z1 ((l++[m]).map (Ad.int y8))])[h.length+1]?=some (z1 ((l++[m]).map BM).flatten):=by rw[Bu AF,WI];simp
    have:=Kn (LU (z:=1) (λa=>rfl) (l++[m])) hg;rw[Ao,As,A5] at this;rw[this];congr 2
    rw[BO _ _ AF];simp
 let s:=gV (u:=r) (k:=6) (cs:=cs.set 6 v) (v:= .CK id 0 (l.length+1) 1) hl rfl ES;rw[OI] at s;let N:=aVy (u:=r) (cs:=cs.set 6 (.CK id 0 (l.length+1) 1)) hl ES m;let T:=hfz ((cs.set 6 (.CK id 0 (l.length+1) 1)).set 4 (I m));let hfa:Mz (h.set Z (z1 ((cs.set 6 (.CK id 0 (l.length+1) 1)).set 4 (I m)))++r) 6 (Pt Z 0)=some (h.set Z (z1 ((cs.set 4 (I m)).set 6 (.sl 1 ((l++[m]).map BM))))++j):=by
  let D:((cs.set 6 (.CK id 0 (l.length+1) 1)).set 4 (I m))[0+6]?=some (.CK id 0 (l.length+1) 1):=by rw[B1,Av AR,AT Ab]
  rw[Mz];simp only[gU hl,D,T,CR,vW hl];congr 3
  rw[B1,List.set_comm _ _ (AR:4≠6),OI,List.set_comm _ _ (AR:6≠4)]
 let w1:=w0.If (u:=j);let⟨_,K,_⟩:=Hk w1 m;let⟨_,J,_⟩:=aKS K (v:= .sl 1 ((l++[m]).map BM)) .yC;let U:Am.put (Am.put (h++j) Z 4 (I m)) Z 6 (.sl 1 ((l++[m]).map BM))=h.set Z (z1 ((cs.set 4 (I m)).set 6 (.sl 1 ((l++[m]).map BM))))++j:=by
  let X:h++j=h.set Z (z1 cs)++j:=by rw[VM hb]
  rw[X,IL (gU hl),vW hl,IL (gU hl),vW hl]
 rw[U] at J;let W:(b.Ey m).1={{b with mode:=m} with tm:=l++[m]}:=by rw[ň];rfl
 rw[W];refine⟨_,_,?_,J,?_⟩;.rw[Ac,p8];simp[L,B,em,V,s,N,hfa]
 .exact⟨AF,λi hi hF=>by rw[An (by simpa using hi),Av (D8 (λe=>hF (.inl e)))],λi hi=> .inl hi⟩
end
section
variable{h h':Ak}{R:Nat}{b b':BS}{F:Nat->Prop}{n o a:Nat}{t:DE}{av:Ad}
def aGb(b:t.st Eu):¬t.st [a2y]:=λa=>absurd (Ax.1 a.2▸b.2:a2y∈Eu) Bi
def aK9(w:PB h R b F)(g:Gz b (n+4*a+1005) o a)(Z:t.Sm)(hv:AK t.Al av):GB h F 32 [Pt R 0,.agg (Bc t av)] (zu (b.EP t).2) R (b.EP t).1:=by
 unfold BS.EP BS.UX;by_cases D:¬t.ok;.rw[Ae D];let f:=Ln w t av;rw[Ag D] at f;exact⟨_,_,by simp[KI,f],w,.refl⟩
 rw[Aa D];let f:=Ln w t av;rw[Ah (CI.1 D)] at f;by_cases i:t.k=5;.rw[Ae i];let⟨U,r,d,T,c⟩:=mP (n:=n) (av:=av) w (g.dn Ab) Z i;exact⟨_,_,by simp[KI,f,Aw i,d],T,c⟩
 rw[Aa i];by_cases j:t.k=4;.rw[Ae j];let⟨U,r,d,T,c⟩:=WH (n:=n) (av:=av) w (g.dn Ab) Z j;exact⟨_,_,by simp[KI,f,i,Aw j,d],T,c⟩
 rw[Aa j];by_cases l:t.k=1;.rw[Ae l];let⟨U,r,d,T,c⟩:=ee (av:=av) w l;exact⟨_,_,by simp[KI,f,i,j,Aw l,d],T,c⟩
 rw[Aa l];by_cases y:t.st Eu;.rw[Ae y];let m:=Gc TJ t av h;rw[Ah y] at m;let⟨U,r,d,T,c⟩:=vU (n:=n) w (g.dn Ab) Z hv (λe=>absurd e (aGb y));exact⟨_,_,by simp[KI,f,m,i,j,l,d],T,c⟩
 rw[Aa y];let m:=Gc TJ t av h;rw[Ag y] at m;by_cases x:t.en [AE];.rw[Ae x];let p:=gO Hl t av h;rw[Ah x] at p;let⟨U,r,d,T,c⟩:=vU (n:=n) w (g.dn Ab) Z hv (λe=>by let U:=e.1;let h2:=x.1;omega);exact⟨_,_,by simp[KI,f,m,p,i,j,l,d],T,c⟩
 rw[Aa x];let p:=gO Hl t av h;rw[Ag x] at p;by_cases C:t.st sT1;.rw[Ae C];let q:=Gc aBO t av h;rw[Ah C] at q;let⟨U,r,d,T,c⟩:=aB0 w g 9;exact⟨_,_,by simp[KI,f,m,p,q,i,j,l,d,wn,BS.again],T,c⟩
 rw[Aa C];let q:=Gc aBO t av h;rw[Ag C] at q;by_cases B:t.st [a4h];.rw[Ae B];let s:=Gc zi t av h;rw[Ah B] at s;let⟨U,r,d,T,c⟩:=aB0 w g 12;exact⟨_,_,by simp[KI,f,m,p,q,s,i,j,l,d,wn,BS.again],T,c⟩
 rw[Aa B];let s:=Gc zi t av h;rw[Ag B] at s;by_cases A:t.st [[116,114]];.rw[Ae A];let u:=Gc aBQ t av h;rw[Ah A] at u;let⟨U,r,d,T,c⟩:=aB0 w g 13;exact⟨_,_,by simp[KI,f,m,p,q,s,u,i,j,l,d,wn,BS.again],T,c⟩
 rw[Aa A];let u:=Gc aBQ t av h;rw[Ag A] at u;by_cases z:t.st sTd;.rw[Ae z];let v:=Gc aBP t av h;rw[Ah z] at v;let⟨U,r,d,T,c⟩:=aB0 w g 14;exact⟨_,_,by simp[KI,f,m,p,q,s,u,v,i,j,l,d,wn,BS.again],T,c⟩
 rw[Aa z];let v:=Gc aBP t av h;rw[Ag z] at v;by_cases V:t.k=2;.rw[Ae V];let⟨U,r,d,T,c⟩:=aB0 w g 7;exact⟨_,_,by simp[KI,f,m,p,q,s,u,v,i,j,l,Aw V,d,wn,BS.again],T,c⟩
 rw[Aa V];by_cases Y:t.k=3;.rw[Ae Y];exact⟨_,_,by simp[KI,f,m,p,q,s,u,v,i,j,l,V,Aw Y],w,.refl⟩
 rw[Aa Y];by_cases Md:b.Pv;.rw[Ae Md];let X:=UZ w g;rw[Ah Md] at X;let⟨_,U,r,d,T,c⟩:=vQ w g (Cc (ws:=[AE])) AR;let g1:Gz {b with AJ:=Dg Cl (AS [AE]) b.AJ} (n+4*a+1005) o a:=g.I0 Co;let⟨_,h2,F2,r2,K,H⟩:=zc T g1;let g2:Gz {b with AJ:=Dg Cl (AS [AE]) b.AJ,AX:=Et b.AX} (n+4*a+1005) o a:=g.sub (lt:=b.tm) Co (B8 _ _) (Af _);let g3:Gz {b with AJ:=Dg Cl (AS [AE]) b.AJ,AX:=Et b.AX,tm:=b.tm.dropLast} (n+4*a+1005) o a:=g.sub Co (B8 _ _) AF;let⟨O,Q,M,J,G⟩:=aK8 K g2;let⟨N,P,L,I,E⟩:=aF3 J g3;exact⟨_,_,by simp only[Ac,KI,abS,↓reduceIte,f,m,p,q,s,u,v,X,i,j,l,V,Y,mC,d,r2,M,L],I,((c.trans H).trans G).trans E⟩
 rw[Aa Md];let X:=UZ w g;rw[Ag Md] at X;let⟨U,r,d,T,c⟩:=aBG w;exact⟨_,_,by simp[KI,f,m,p,q,s,u,v,X,i,j,l,V,Y,d],T,c⟩
def aP0(w:PB h R b F)(g:Gz b (n+8*(4*(o+a+8)+10)+8*a+2000) o a)(y:t.Sm)(B:AK t.Al av):GB h F 30 [Pt R 0,.agg (Bc t av)] (zu (b.L5 t).2) R (b.L5 t).1:=by
 let D:∀{m},m<=n+8*(4*(o+a+8)+10)+8*a+2000->Gz b m o a:=λh=>g.dn h;rw[BS.L5];by_cases j:¬t.ok;.rw[Ae j];exact aBZ w j
 rw[Aa j];by_cases r:t.k=5;.rw[Ae r];exact mP (n:=n) w (D Ab) y r
 rw[Aa r];by_cases q:t.k=4;.rw[Ae q];exact WH (n:=n) w (D Ab) y q
 rw[Aa q];by_cases d:t.k=6
 .rw[Ae d];let⟨x,l6,s⟩:=w.ltm;let A:=SW.new w t av;let ok:=Ln w t av;rw[Ah (j0 d AR)] at ok;let⟨v,c,G⟩:=A.pb.ltm;let i:=G.1.len;by_cases e:0<b.tm.length;.rw[Ae e];let⟨C,u,f,z,l⟩:=aK9 (n:=n) A.pb (D Ab) y B;refine⟨C,u,?_,z,L7 (id:=h.length+1) AF .refl l.gS⟩;rw[Ac,LY,ì];simp only[GL,Bc,d] at f ok c;simp only[abS,zx,AP,Bc,ok,d,Jq,c,i,(Ab:0<(b.tm.length:Int)),f]
  .rw[Aa e];let⟨C,u,f,z,l⟩:=aBG A.pb;exact⟨C,u,by rw[Ac,LY,ì];simp only[GL,Bc,d] at f ok c;simp only[abS,zx,AP,Bc,ok,d,Jq,c,i,(Ab:¬0<(b.tm.length:Int)),f],z,L7 (id:=h.length+1) AF .refl l.gS⟩
 rw[Aa d];by_cases e:t.k=2;.rw[Ae e];exact sd w g y B e
 rw[Aa e];by_cases p:t.k=3;.rw[Ae p];exact d_ w g y B p
 .rw[Aa p];exact ee w (by have:=CI.1 j;rw[DE.ok] at this;omega)
end
section
variable{h b:Ak}{ar n x:Int}{l:List PN}{A:Ar}
def aP1{a n:Nat}{m:Option Nat}(w:PA h a n m l A)(d:OM A)(o:A.has x/\(A.nd x).kind=1)(q:Bool):
  ∃b s,BF cx 100 [Pt a 0,I x,zu q] h (I 0) b/\PA b a n m s (A.set x {A.nd x with Cm:=q})/\Dx h (λi=>i∈Hh a n m l) b (λi=>i∈Hh a n m s):=by
 let r:=(w.pn o.1).2.1;let⟨t,e,c,j,f,g⟩:=w.wr o.1 (k:=10) AR (v:= zu q) rfl (p:=⟨{A.nd x with Cm:=q},(pN l x).kv,(pN l x).av,r▸(pN l x).ok⟩) (by simp only[PN.row];rw[r];rfl) rfl rfl;exact⟨t,_,by simp[pP,be w d,Ae o.1,Ae o.2,BR,CH,J3 w d o.1,e],c,w.yj c j f g⟩
def WJ(nm b a:Aj)(d:Int):PN:=⟨{kind:=3,Cd:=d,name:=nm,Ho:=b,sys:=a},.slnil,.slnil,rfl⟩
def aP2{a n:Nat}{m:Option Nat}{nm Ho sys:Aj}(w:PA h a n m l A)(e:OM A)(hb:A.len+1<=1000000000)(k:A.has x/\(A.nd x).kind=1):
  ∃b,BF cx 102 [Pt a 0,I x,yu nm,yu Ho,yu sys] h (zm [I (A.len+1),I 0]) b/\PA b a h.length m (l++[WJ nm Ho sys x]) (A.add (WJ nm Ho sys x).x)/\(∀i,i<h.length->i≠a->i≠n->b[i]?=h[i]?)/\b.length=h.length+1:=by
 let nM:=w.len;let⟨o,c,q,d,r⟩:=aA4 w Ab (WJ nm Ho sys x) rfl rfl;let j:BF cx 229 [Pt a 0,I x,.agg (WJ nm Ho sys 0).row] h (zm [I (A.len+1),I 0]) o:=by rw[PN.row] at c;rw[Ac,ZW,PN.row];simp only[abS,be w e,Ae k.1,Ae k.2,BR,CH,WJ] at c⊢;simp[c]
 exact⟨o,by rw[PN.row,WJ] at j;simp[pQ,AP,j],q,d,r⟩
end
section
variable{h Y:Ak}{V:Nat}{b Z:BS}{F:Nat->Prop}{n o a:Nat}{t:DE}{X:Ad}
def aB2(w:PB h V b F)(g:Gz b n o a):∃j,A8 h none (Pt V 0)=zw (Pt j 0)/\GB h F 100 [Pt j 0,I b.Cd,tt] (I 0) V b.gH:=by
 obtain⟨j,i,c,d,G,w,q,rfl⟩:=w;let⟨Y,u,r,p,k⟩:=w.step λn m ps f=>let⟨s,t,r,l,e⟩:=aP1 f g.rm.V6 g.ok.Cd z8;⟨s,n,m,t,r,l,e⟩
 exact⟨j,w.l0,Y,_,r,⟨j,i,c,d,u,p,q,rfl⟩,k⟩
def aVC(w:PB h V b F)(g:Gz b (n+1) o a)(nm l j:Aj):∃k,A8 h none (Pt V 0)=zw (Pt k 0)/\GB h F 102 [Pt k 0,I b.Cd,yu nm,yu l,yu j] (zm [I (b.a.len+1),I 0]) V {b with a:=b.a.add (WJ nm l j b.Cd).x}:=by
 obtain⟨k,f,c,d,G,w,v,rfl⟩:=w;let⟨Y,z,r,t,q⟩:=w.step λn m ps e=>let⟨y,r,s,i,u⟩:=aP2 (nm:=nm) (Ho:=l) (sys:=j) e g.rm.V6 (by have:=g.rm.n;rw[Ar.len];omega) g.ok.Cd;⟨y,_,_,_,r,s,e.TD rfl i u⟩
 exact⟨k,w.l0,Y,_,r,⟨k,f,c,d,z,t,v,rfl⟩,q⟩
def aLa(w:PB h V b F)(g:Gz b n o a){e:Int}(ok:Fj b.a e)(p x k):∃f d,A8 h none (Pt V 0)=zw (Pt f 0)/\GB h F 103 [Pt f 0,I p,I x,I k] (I d) V {b with a:=b.a.Gu p x k}:=by
 obtain⟨f,q,c,i,G,w,v,rfl⟩:=w;let⟨Y,A,⟨d,r⟩,u,s⟩:=w.step (R:=λY=>∃d,BF cx 103 [Pt f 0,I p,I x,I k] h (I d) Y) λn m ps l=>let⟨d,y,z,r,t,j⟩:=aHy l g.rm.V6 ok;⟨y,n,m,z,⟨d,r⟩,t,j⟩
 exact⟨f,d,w.l0,Y,_,r,⟨f,q,c,i,A,u,v,rfl⟩,s⟩
def aP3{u:DE->Bool}(w:PB h V b F)(g:Gz b (n+5) o a)(ht:t.Sm)(hv:AK t.Al X)(hq:∀h,BF cx 104 [.agg (Bc t X)] h (zu (u t)) h):GB h F 24 [Pt V 0,.agg (Bc t X)] (zu (b.JG u t).2) V (b.JG u t).1:=by
 let Cg:=w.Cg;rw[BS.JG];by_cases B:¬t.ok;.rw[Ae B];let c:=Ln w t X;rw[Ag B] at c;exact⟨_,_,by simp[SJ,c],w,.refl⟩
 rw[Aa B];let c:=Ln w t X;rw[Ah (CI.1 B)] at c;by_cases A:t.DQ;.rw[Ae A];let d:=UY t X h;rw[Ah A] at d;exact⟨_,_,by simp[SJ,c,d],w,.refl⟩
 rw[Aa A];let d:=UY t X h;rw[Ag A] at d;by_cases z:t.k=4;.rw[Ae z];let⟨h1,L,j,e,i⟩:=N2 (s:=t.data) w (g.dn (n':=n+1) Ab) (by have:=ht.data;omega) b.Cd;exact⟨_,_,by simp[SJ,c,d,Aw z,Cg,j],e,i⟩
 rw[Aa z];by_cases f:t.k=1;rotate_left;.rw[Ae f];let⟨S,v,h1,L,j,e,i⟩:=aB2 w g;let⟨h2,F2,r2,r,q⟩:=qz e 2;exact⟨_,_,by simp[SJ,c,d,z,BR,eq_false f,Ai,v,Cg,j,r2,BS.again],r,i.trans q⟩
 rw[Aa (by simp[f])];let hd:=g.ok.Cd;let hx:mn {kind:=3,Cd:=b.Cd,name:=t.name,Ho:=t.Ho,sys:=t.sys}:=by constructor<;>simp[CL,HP,iR]
 let TE:=SD g.ok.ok hx (.inr ⟨AF,hd⟩) rfl rfl rfl rfl (λh=>absurd h.1 (AR:¬(3:Int)=4));let⟨S,v,h1,L,j,e,i⟩:=aVC w (g.dn (n':=n+1) Ab) t.name t.Ho t.sys;let g1:Gz {b with a:=b.a.add (WJ t.name t.Ho t.sys b.Cd).x} n o a:=⟨g.ok.IN TE XI,(g.dn Ab).rm.Kh (LW (y:={kind:=3,Cd:=b.Cd,name:=t.name,Ho:=t.Ho,sys:=t.sys}) AF AF),g.AJ,g.AX,g.nm.add ht.name⟩;let⟨R,T,p,h2,F2,r2,r,q⟩:=aLa e g1 TE b.Cd (b.a.len+1) 0;let l1:=e.Cg;let P:=r.Cg;let g2:=(g.dn (n':=n+1) Ab).SX ht;let m:=r;let l:=hq h2;dsimp only;cases K:u t<;>rw[K] at l
 .rw[Aa AF];let⟨E,D,C⟩:=Hk m 2;exact⟨_,_,by rw[Ac,SJ];rw[Bc,f] at c d l;simp[c,d,Jq,f,Bc,BR,AD,v,Cg,j,p,l1,r2,l,E],D,(i.trans q).trans C⟩
 .rw[Ae rfl];let⟨J,H,Q,U,O,N,M⟩:=aB2 m g2;let G:=O;let⟨E,D,C⟩:=Hk N 2;exact⟨_,_,by rw[Ac,SJ];rw[Bc,f] at c d l;simp[c,d,Jq,f,Bc,BR,AD,v,Cg,j,p,l1,r2,l,H,P,G,E],D,((i.trans q).trans M).trans C⟩
def L8{es:List (Ad×Ad)}{k:Int}{v:Ad}(e:JQ k es 0=zw none):EH .ı (h++[xu es]) [xv (zw h.length),I k,v]=zw (h++[xu (es++[(I k,v)])],tt):=by simp[EH,ue,e]
def iS(k:Nat):Ad:= z5 (z7 k) [] []
def L9:List (Ad×Ad):=[(I 1,iS 24),(I 2,iS 25),(I 3,iS 26),(I 4,iS 27),(I 5,iS 28),(I 6,iS 29),(I 7,iS 30),(I 8,iS 31),(I 18,iS 32)]
def aP5(h:Ak):BF cx 98 [] h (xv (zw h.length)) (h++[xu L9]):=by let m:=L8 (h:=h) (es:=L9.take 0) (k:=1) (v:=iS 24) rfl;let l:=L8 (h:=h) (es:=L9.take 1) (k:=2) (v:=iS 25) rfl;let j:=L8 (h:=h) (es:=L9.take 2) (k:=3) (v:=iS 26) rfl;let i:=L8 (h:=h) (es:=L9.take 3) (k:=4) (v:=iS 27) rfl;let g:=L8 (h:=h) (es:=L9.take 4) (k:=5) (v:=iS 28) rfl;let f:=L8 (h:=h) (es:=L9.take 5) (k:=6) (v:=iS 29) rfl;let e:=L8 (h:=h) (es:=L9.take 6) (k:=7) (v:=iS 30) rfl;let d:=L8 (h:=h) (es:=L9.take 7) (k:=8) (v:=iS 31) rfl;let c:=L8 (h:=h) (es:=L9.take 8) (k:=18) (v:=iS 32) rfl;simp[L9,iS,GD,Im,B4,CS] at m l j i g f e d c;simp[oz,m,l,j,i,g,f,e,d,c,L9,iS]
def eo{a:List (Ad×Ad)}{k:Int}{r:Option (Nat×Ad)}(e:JQ k a 0=zw r):EH (.I_ y5 z8) (h++[xu a]) [xv (zw h.length),I k]=zw (h++[xu a],Xe y5 z8 r):=by simp[EH,xC,e]
def Q8(w:PB h V b F)(n:t.ok){i k:Nat}{r:Bool}(e:JQ b.mode L9 0=zw (zw (i,iS k)))(f:k<=99999)(d:GB (h++[xu L9]) F k [Pt V 0,.agg (Bc t X)] (zu r) V Z):GB h F 23 [Pt V 0,.agg (Bc t X)] (zu r) V Z:=by let⟨q,s,a,l,j⟩:=d;let v:=w.Cg;let c:=(w.If (u:=[xu L9])).Cg;let g:=Ln w t X;rw[Ah n] at g;let m:=eo (h:=h) e;exact⟨q,s,by simp[eV,g,v,aP5 h,c,BK,m,Xe,iS,C6,Br,f,a],l,Dx.trans ⟨AF,λi o _=>An o,λ_ p=> .inl p⟩ j⟩
def aLb(w:PB h V b F)(j:t.ok)(e:JQ b.mode L9 0=zw none):GB h F 23 [Pt V 0,.agg (Bc t X)] ff V b:=by let m:=w.Cg;let a:=w.If (u:=[xu L9]);let c:=a.Cg;let d:=Ln w t X;rw[Ah j] at d;let f:=eo (h:=h) e;exact⟨_,F,by simp[eV,d,m,aP5 h,c,BK,f,Xe],a,AF,λi k _=>An k,λ_ l=> .inl l⟩
def aP6{s:DE->Bool}(w:PB h V b F)(g:Gz b (n+8*(4*(o+a+8)+10)+8*a+2000) o a)(z:t.Sm)(y:AK t.Al X)(E:∀h,BF cx 104 [.agg (Bc t X)] h (zu (s t)) h):GB h F 23 [Pt V 0,.agg (Bc t X)] (zu (b.apply s t).2) V (b.apply s t).1:=by
 let A:∀{m},m<=n+8*(4*(o+a+8)+10)+8*a+2000->Gz b m o a:=λh=>g.dn h;let x:=w.If (u:=[xu L9]);rw[BS.apply];by_cases r:¬t.ok;.rw[Ae r];let v:=Ln w t X;rw[Ag r] at v;exact⟨_,_,by simp[eV,v],w,.refl⟩
 rw[Aa r];let B:=CI.1 r;by_cases q:b.mode=1;.rw[Ae q];exact Q8 w B (by rw[q];rfl) AR (aP3 (n:=n) x (A Ab) z y E)
 rw[Aa q];by_cases p:b.mode=2;.rw[Ae p];exact Q8 w B (by rw[p];rfl) AR (aPJ (n:=n) x (A Ab) z y)
 rw[Aa p];by_cases l:b.mode=3;.rw[Ae l];exact Q8 w B (by rw[l];rfl) AR (aPK (n:=n) x (A Ab) z y (λC=>Qf (n:=n) x (A Ab) z y C))
 rw[Aa l];by_cases j:b.mode=4;.rw[Ae j];exact Q8 w B (by rw[j];rfl) AR (vU (n:=n) x (A Ab) z y (λC=>Qf (n:=n) x (A Ab) z y C))
 rw[Aa j];by_cases f:b.mode=5;.rw[Ae f];exact Q8 w B (by rw[f];rfl) AR (aPM (n:=n) x (A Ab) z y (λC=>Qf (n:=n) x (A Ab) z y C))
 rw[Aa f];by_cases e:b.mode=6;.rw[Ae e];exact Q8 w B (by rw[e];rfl) AR (aPO (n:=n) x (A Ab) z y (λC=>Qf (n:=n) x (A Ab) z y C))
 rw[Aa e];by_cases d:b.mode=7;.rw[Ae d];exact Q8 w B (by rw[d];rfl) AR (aP0 x g z y)
 rw[Aa d];by_cases c:b.mode=8;.rw[Ae c];exact Q8 w B (by rw[c];rfl) AR (aPP (n:=n) x (A Ab) z y)
 rw[Aa c];by_cases D:b.mode=18;.rw[Ae D];exact Q8 w B (by rw[D];rfl) AR (aK9 (n:=n) x (A Ab) z y)
 exact Aa D▸aLb w B (by simp[L9,JQ,q,p,l,j,f,e,d,c,D,DW])
end
section
variable{av:Ad}
def qE1:Aj:=a3k
def qE2:Aj:=a3l
def qE3:Aj:=[72,84,77,76]
def qA:Aj:=a3m
def qB:Aj:=a3i
def HY:List Aj:=[qE1,qE2,qE3]
def WK:List Aj:=[a3P,a3C,a3W,a3v,a3w,a3X,a3q,a3S,a3p,a3j,a3c,a3f,a3Q,a3x]
def Qg:List Aj:=[qA,qB]
def mQ{k:IntKind}{s:Aj}{b z:Nat}(hb:b<=s.length):AB (.LK z z8 zy z8) [yu s,.int k b]=zw (yu (s.take b)):=by
 let a:Fv b s.length=zw b:=by rw[Fv];rw[Ae Ab];rfl
 simp[AB,Kg,En,a]
def Gi(p w:Aj):Bool:=decide (w.length<=p.length/\Eb (p.take w.length)=Eb w)
def IE(p w:Aj):Bool:=decide (Eb p=Eb w)
def aVG{v:Ad}{l:List Aj}(k:HU l v)(hn:l.length<9223372036854775807)(h:Ak){f:FuncId}{e:List Ad}{p:Aj->Bool}(q:f<=99999)(o:∀a∈l,BF cx f (yu a::e) h (zu (p a)) h):
  BF cx 358 [v,z5 (z7 f) [] e] h (I (Ck p 0 l)) h:=by
 rw[Ac,tT];let c:(l.map BY).length=l.length:=Ao ..;simp only[By,AY.len k];refine Bm (λn:Nat=>[I 0,I n]) (λn m=>n<=l.length/\Ck p 0 l=Ck p n (l.drop n)/\m=h) (λn=>l.length-n) 0 rfl ⟨AZ _,rfl,rfl⟩ ?_;rintro n m ⟨jR,i,rfl⟩;obtain d|r:=AQ n l.length
 .let i1:n<((l.map BY).length:Int):=by rw[c];omega
  let b:(l.map BY)[n]'(c▸d)=BY l[n]:=AF;rw[AI d,Ck] at i;simp only[By,T6,C6,q,i1,AY.EM k (show n<(l.map BY).length by rwa[c]),b,BY,o _ (AV d)];rw[CW];refine⟨λj=>?_,λj=>?_⟩;.rw[i,Ae j]
  .rw[Aa (by simp[j])] at i;simp[BB n];exact xx (n+1) rfl ⟨d,i,rfl⟩ Ab
 .let i1:¬n<((l.map BY).length:Int):=by rw[c];omega
  rw[AU r,Ck] at i;simp only[By,i1,Ai,Ay,Au,i]
def aGc{U:Type}{p:U->Bool}{l:List U}:decide (0<=Ck p 0 l)=l.any p:=by
 have:l.any p=(l.find? p).isSome:=by rw[Ĝ,List.find?_isSome,Mn]
 rw[this];rcases Ig with⟨c,d⟩|⟨n,a,c,d,b⟩
 .rw[c,d];simp
 .rw[c,b];simp
def aVH{v:Ad}{l:List Aj}(b:HU l v)(d:l.length<9223372036854775807)(h:Ak){f:FuncId}{caps:List Ad}{p:Aj->Bool}(e:f<=99999)(c:∀a∈l,BF cx f (yu a::caps) h (zu (p a)) h):
  BF cx 236 [v,z5 (z7 f) [] caps] h (zu (l.any p)) h:=by
 simp[rS,aVG b d h e c,aGc]
def aP7(t:DE)(ht:t.Ho.length<=AN)(w:Aj)(a:w.length<=AN)(h:Ak):BF cx 235 [yu w,.CO (Bc t av)] h (zu (Gi t.Ho w)) h:=by
 let b:(t.Ho.take w.length).length<=AN:=by rw[Az];omega
 simp[rR,Bc];refine⟨λh=>?_,λh=>?_⟩
 .let h:w.length<=t.Ho.length:=by omega
  simp[mQ h,(aAV _ _ b a).BG rfl rfl,Gi,h]
 .let h:¬w.length<=t.Ho.length:=by omega
  simp[h,Gi]
def Q9(t:DE):Bool:=
 if t.k≠1 then zy else if t.q=z8 then z8 else if t.hn=zy then z8 else if t.name≠a2y then z8 else if t.hp=zy then zy
 else HY.any (IE t.Ho)||WK.any (Gi t.Ho)||(!t.hs&&Qg.any (Gi t.Ho))
def f75(t:DE)(P:t.Ho.length<=AN)(h:Ak):BF cx 104 [.agg (Bc t av)] h (zu (Q9 t)) h:=by
 have c:=DK (args:=WK.map y3) rfl AR;have g:=DK (args:=HY.map y3) rfl AR;generalize y:(Ad.sl 1 (WK.map BY))=F at c;generalize v:(Ad.sl 1 (HY.map BY))=z2 at g;simp only[WK,HY,qE1,qE2,qE3,Bn,C1] at c g;try dsimp only at c g
 rw[<-y] at c;rw[<-v] at g;let U:∀w∈WK,w.length<=AN:=Bi;let B:∀w∈Qg,w.length<=AN:=Bi;let D:∀w∈HY,w.length<=AN:=Bi;let R:HU HY (.sl 1 (HY.map BY)):= .mk;let H:(HY.map BY).length=3:=rfl;let bh:HY.length=3:=rfl;let C:=λw V=>aP7 (av:=av) t P w V h;let i:=λk=>(aVH .mk AR h AR (λa J=>aP7 (av:=av) t P a (U a J) h)).KS (k:=k) (Q:=λx M K=>x= .ret/\M=[zu (Q9 t)]/\K=h);let u:=λk=>(C qA (B _ (by simp[Qg]))).KS (k:=k) (Q:=λx M K=>x= .ret/\M=[zu (Q9 t)]/\K=h);let s:=λk=>(C qB (B _ (by simp[Qg]))).KS (k:=k) (Q:=λx M K=>x= .ret/\M=[zu (Q9 t)]/\K=h);let A:Qg.any (Gi t.Ho)=(Gi t.Ho qA||Gi t.Ho qB):=by simp[Qg]
 let G:Q9 t=Q9 t:=rfl;conv at G=>rhs;rw[Q9]
 rw[A] at G;rw[Ac,pS,Bc];rw[Bc] at i u s;simp only[Sl,Tl,Bg,BH,PR,j6,j7];by_cases e:t.k=1;rotate_left;.rw[Ae e] at G;simp[e,BR,G]
 rw[Aa (by simp[e])] at G;simp only[abS,e,BR];cases r:t.q
 .rw[Aa (by simp[r])] at G;simp only[By];cases o:t.hn
  .rw[Ae o] at G;simp[G]
  .rw[Aa (by simp[o])] at G;simp only[abS];by_cases d:t.name=a2y;rotate_left;.rw[Ae d] at G;simp[d,G]
   rw[Aa (by simp[d])] at G;simp only[abS,d];cases m:t.hp
   .rw[Ae m] at G;simp[G]
   .rw[Aa (by simp[m])] at G;simp only[abS,g,AY.len R,H];refine Bm (λn:Nat=>[zu zy,I n]) (λn K=>n<=HY.length/\HY.any (IE t.Ho)=(HY.drop n).any (IE t.Ho)/\K=h) (λn=>HY.length-n) 0 rfl ⟨AZ _,rfl,rfl⟩ ?_;rintro n K ⟨jR,J,rfl⟩;obtain L|X:=AQ n HY.length
    .let i1:n<((3:Nat):Int):=by omega
     let A:(HY.map BY)[n]'(by rw[H];omega)=BY HY[n]:=AF;let E:decide (Eb t.Ho=Eb HY[n])=IE t.Ho HY[n]:=rfl;rw[AI L,Iy] at J;simp only[By,T6,i1,AY.EM R (show n<(HY.map BY).length by rw[H];omega),A,BY,(aAV _ _ P (D _ (AV L))).BG rfl rfl,E,BB n];rw[CW];refine⟨λb=>?_,λb=>?_⟩;.rw[b,KL] at J;rw[J,KL,KL] at G;rw[G]
     .rw[b,E0] at J;exact xx (n+1) rfl ⟨L,J,rfl⟩ Ab
    .let i1:¬n<((3:Nat):Int):=by omega
     rw[AU X,RK] at J;rw[J,E0] at G;simp only[abS,i1];cases j:t.hs
     .rw[j] at G;rw[e,r,o,d,m,j] at i u s;simp only[qA,qB] at u s G;simp only[abS,↓reduceIte,c,i,u,s,C6,Nat.reduceLeDiff];rw[CW,CW];refine⟨λb=>?_,λb=>⟨λz=>?_,λz=>?_⟩⟩;.rw[G,b];simp
      .rw[G,z];simp
      .rw[G,b,z];simp
     .rw[j] at G;rw[e,r,o,d,m,j] at i;simp[c,i];rw[G];simp
 .rw[Ae r] at G;simp[G]
end
def aLc{t:DE}{c:Ad}(f:AK t.Al c)(hl:t.Al.length<=1000000):∃d,AK t.Al d/\∀h,BF cx 22 [.agg (Bc t c)] h (.agg (Bc t d)) h:=let⟨u,e,a⟩:=AY.oW (l:=([]:List Bb)) (b:=40) (.inr ⟨rfl,rfl⟩) f (by simp;have:AN=140737488355328:=rfl;omega);⟨u,a,λh=>by let i:=AY.cells a;simp[nr,Bc,e,i,Bg,BH,PR,j6]⟩
section
variable{sa:List Bb->Bool}{t:DE}{k:Ad}{h:Ak}
def DE.Qa(a:List Bb->Bool)(t:DE):Bool:=decide (t.name.length<=60)&&(decide (t.Ho.length<=100)&&(decide (t.sys.length<=100)&&(decide (t.data.length<=200)&&a t.Al)))
def f455(j:∀{v:Ad} {l:List Bb} (h:Ak),AK l v->BF cx 17 [v] h (zu (sa l)) h)(m:AK t.Al k)(h:Ak):BF cx 6 [.agg (Bc t k)] h (zu (t.Qa sa)) h:=by
 rw[Ac,aNw];rw[DE.Qa];let b:((t.name.length:Int)<=60)=(t.name.length<=60):=propext Ab;let d:((t.Ho.length:Int)<=100)=(t.Ho.length<=100):=propext Ab;let f:((t.sys.length:Int)<=100)=(t.sys.length<=100):=propext Ab;let i:((t.data.length:Int)<=200)=(t.data.length<=200):=propext Ab;by_cases a:t.name.length<=60;rotate_left;.simp only[abS,zx,↓reduceIte,Bc,b,a,Kf]
 by_cases c:t.Ho.length<=100;rotate_left;.simp only[abS,zx,↓reduceIte,Bc,b,a,d,c,Kf]
 by_cases e:t.sys.length<=100;rotate_left;.simp only[abS,zx,↓reduceIte,Bc,b,a,d,c,f,e,Kf]
 by_cases g:t.data.length<=200;rotate_left;.simp only[abS,zx,↓reduceIte,Bc,b,a,d,c,f,e,i,g,Kf]
 .simp only[abS,zx,↓reduceIte,Bc,b,a,d,c,f,e,i,g,Kf,j h m]
end
def Is(r:LI):HN:=λx a h=>r=(x,a,h)
section
variable{C:Hw}{f:FuncId}{d:List Ad}{h i:Ak}{v:Ad}
def Is.ret(b:W C (Cf C f d) (Is (.ret,[v],i)) h):BF C f d h v i:=
 Ac.2 (b.mono λx vs h1 e=>by rw[Is] at e;cases e;exact⟨rfl,rfl,rfl⟩)
def Is.of(e:BF C f d h v i):W C (Cf C f d) (Is (.ret,[v],i)) h:=
 W.mono (Ac.1 e) λx vs h1 ⟨c,b,a⟩=>by rw[Is];rw[c,b,a]
end
section
variable{C:Hw}{E:FuncId->List Ad->IT}
def aB3{rec:IT->Ak->Option LI}(Zc:∀t h r,rec t h=zw r->W C t (Is r) h)(N:∀f G h r,rec (E f G) h=zw r->W C (Cf C f G) (Is r) h):
  ∀(t:IT) (h:Ak) (r:LI),IT.step E rec t h=zw r->W C t (Is r) h:=by
 intro t;induction t with
 |ret x O=>intro h r d;rw[IT.step,BN] at d;exact kC d.symm
 |fail=>intro h r d;simp[IT.step] at d
 |op o G k F=>
  intro h r d;rw[IT.step] at d;split at d;next v e=>exact aMp e (F _ _ _ d)
  .cases d
 |cells n v k F=>
  intro h r d;rw[IT.step] at d;split at d;next M=>exact uk M (F _ _ _ d)
  .cases d
 |Hs c t e i w=>
  intro h r d;simp[IT.step] at d;split at d;.exact um (λ_=>i _ _ d) λh=>by cases h
  .exact um (λh=>by cases h) λ_=>w _ _ d
  .cases d
 |load n p k F=>
  intro h r d;rw[IT.step] at d;split at d;next v e=>exact Ļ e (F _ _ _ d)
  .cases d
 |store n p v k F=>
  intro h r d;rw[IT.step] at d;split at d;next v e=>exact uo e (F _ _ d)
  .cases d
 |alloc n v k F=>
  intro h r d;rw[IT.step,aT] at d;by_cases M:v.cells.length=n;.rw[Ae M] at d;exact uq M (F _ _ _ d)
  .rw[Aa M] at d;cases d
 |call f G k F=>
  intro h r d;rw[IT.step] at d;split at d;next v H e=>exact(Is.ret (N _ _ _ _ e)).KS.2 (F _ _ _ d)
  .cases d
 |Mp g G k F=>
  intro h r d;rw[IT.step] at d;split at d
  .rename_i f a V;split at d;.rename_i v H e;exact So.2 ⟨(f,a),V,(Is.ret (N _ _ _ _ e)).KS.2 (F _ _ _ d)⟩
   .cases d
  .cases d
 |BG f G k F=>
  intro h r d;rw[IT.step] at d;split at d
  .rename_i Iq;split at d
   .rename_i v H e;split at d;.rename_i P;let X:JY C f G v:=(Is.ret (N _ _ _ _ e)).ev rfl;exact(X.BG Iq P).2 (F _ _ _ d)
    .cases d
   .cases d
  .cases d
 |loop L init body k u j=>
  intro h r d;rw[IT.step] at d;split at d;next O H e=>exact Sp ((u _ _ _ e).mono λx l R q=>by rw[Is] at q;cases q;exact .inl ⟨rfl,Zc _ _ _ d⟩)
  next x O H Q e=>exact Sp ((u _ _ _ e).mono λx l R q=>by rw[Is] at q;cases q;exact .inr ⟨λU=>Q U,j _ _ _ _ d⟩)
  .cases d
 |Qp L t k i j=>
  intro h r d;rw[IT.step] at d;split at d;next x O H e=>exact ł ((i _ _ e).mono λx l R q=>by rw[Is] at q;cases q;exact j _ _ _ _ d)
  .cases d
 |same a b k F=>
  intro h r d;rw[IT.step] at d;split at d;next M=>exact ļ M (F _ _ d)
  .cases d
 |RQ k F=>intro h r d;rw[IT.step] at d;exact Ľ (F _ _ _ d)
 |Me m L v k F=>
  intro h r d;rw[IT.step] at d;split at d;next H e=>exact ľ e (F _ _ d)
  .cases d
 |N7 z ok m L k F=>
  intro h r d;rw[IT.step] at d;split at d;next H e=>exact Ŀ e (F _ _ _ d)
  .cases d
 |make K J zero len cap k F=>
  intro h r d;rw[IT.step] at d;split at d;next H v e=>exact ij e (F _ _ _ d)
  .cases d
 |M3 K J s x k F=>
  intro h r d;rw[IT.step] at d;split at d;next H v e=>exact ur e (F _ _ _ d)
  .cases d
 |FZ s k F=>
  intro h r d;rw[IT.step] at d;split at d;next H v e=>exact bH e (F _ _ _ d)
  .cases d
 |RL v k F=>
  intro h r d;rw[IT.step] at d;split at d;next H v e=>exact aGN e (F _ _ _ d)
  .cases d
 |RR off p k F=>
  intro h r d;rw[IT.step] at d;split at d;next H e=>exact uv e (F _ _ d)
  .cases d
 |Kh K J s x k F=>
  intro h r d;rw[IT.step] at d;split at d;next H v e=>exact ŀ e (F _ _ _ d)
  .cases d
 |HL K J s x k F=>
  intro h r d;rw[IT.step] at d;split at d;next v e=>exact kD e (F _ _ _ d)
  .cases d
 |mem o G k F=>
  intro h r d;rw[IT.step] at d;split at d;next H v e=>exact aGO e (F _ _ _ d)
  .cases d
 |uc f G k F=>
  intro h r d;rw[IT.step] at d;split at d
  .rename_i v H e;split at d;.rename_i P;let⟨n,x,O,R,D,y⟩:=N _ _ _ _ e;rw[Is] at y;cases y;let⟨m,T,Je,Y,B,A⟩:=(F _ _ _ d).succ;refine Di ⟨max n m,T,Je,Y,?_,A⟩;let a1:=IT.Ju (Jb n m) D;let Z:=IT.Ls (λt h r=>IT.Ju (IC n m)) _ _ _ B;rw[IT.step];rw[Hw.run] at*;simp[a1,P,BV];exact Z
   .cases d
  .cases d
def aLd(C:Hw)(E:FuncId->List Ad->IT):Prop:=∀f a,E f a=Cf C f a\/∀n h r,IT.run E n (E f a) h=zw r->W C (Cf C f a) (Is r) h
def vX(c:aLd C E):∀n (t:IT) (h:Ak) (r:LI),IT.run E n t h=zw r->W C t (Is r) h
 |0,t,h,r,a=>by simp[IT.run] at a
 |n+1,t,h,r,a=>by
  refine aB3 (vX c n) ?_ t h r a;intro f b h r a;obtain e|e:=c f b
  .rw[e] at a;exact vX c n _ _ _ a
  .exact e n h r a
def ą(c:aLd cx E){f:FuncId}{a:List Ad}{h:Ak}n(d:fA (IT.run E n (Cf cx f a) h)=z8):Ev cx f a h λr _=>r= zu z8:=let⟨h',e⟩:=jQ d;(Is.ret (vX c n _ _ _ e)).ev rfl
def zq(v:Ad):IT:= .FZ (yu []) λu=> .RL u λ_=> x4 .ret [v]
def mR{n:Nat}{v:Ad}{h:Ak}{r:LI}(e:IT.run E n (zq v) h=zw r):r=(.ret,[v],h++[.CV]):=by
 cases n
 .simp[IT.run] at e
 next n=>
  let b:Ki h (yu [])=zw (h++[z1 []],.CK h.length 0 0 1):=rfl;let a:LH (h++[z1 []]) (.CK h.length 0 0 1)=zw (h++[.CV],.sl 1 []):=by simp[LH,CP]
  simp[IT.run,zq,IT.step,b,a,BN] at e;exact e.symm
end
theorem aP8{l:Aj}{b:List Aj}(w:Mm l b)(s:Aj)(h:Ak):BF cx 237 [yu s,yu l] h (zu (decide (s∈b))) (h++[.CV]):=by let a:=aBK w h;let d:=aFr (Cc (ws:=b)) (by have:=w.few;omega) s (h++[DH.CV]);simp[ZY,a,d]
def eqB:Aj->Aj->Bool
 |[],[]=>z8
 |a::s,b::t=>x6 a.toNat b.toNat&&eqB s t
 |_,_=>zy
theorem zr:∀{s t:Aj},eqB s t=z8↔s=t
 |[],[]=>by simp[eqB]
 |[],b::t=>by simp[eqB]
 |a::s,[]=>by simp[eqB]
 |a::s,b::t=>by rw[eqB,Bs,zr,FU,wp];exact⟨λ⟨d,c⟩=>⟨Rb.1 d,c⟩,λ⟨d,c⟩=>⟨by rw[d],c⟩⟩
def spN(n:Nat):Bool:=(Nat.ble 9 n&&Nat.ble n 13)||x6 n 32
theorem aLf(c:UInt8):spN c.toNat=Qd c:=by unfold spN Qd;rw[Ĝ];simp[YV,Bs,wo,wp,Cj]
def Į:Aj->Aj->List Aj
 |a,[]=>match a with
  |[]=>[]
  |_::_=>[a.reverse]
 |a,c::r=>match spN c.toNat with
  |z8=>match a with
   |[]=>Į [] r
   |_::_=>a.reverse::Į [] r
  |zy=>Į (c::a) r
theorem vY:∀(s a:Aj),Į a s=wf a.reverse s
 |[],[]=>by simp[Į,wf]
 |[],c::a=>by simp[Į,wf]
 |c::r,a=>by
  let d:=aLf c;cases b:Qd c
  .rw[b] at d;simp[Į,wf,d,b,vY r (c::a)]
  .rw[b] at d;cases a
   .simp[Į,wf,d,b,vY r []]
   next x a=>simp[Į,wf,d,b,vY r []]
def okB(l:Aj):Bool:=Nat.ble l.length 1000000&&l.all λc=>Nat.ble (c.toNat+1) 128
theorem zt{l:Aj}(h:okB l=z8):Mm l (Į [] l):=by rw[okB] at h;simp[Bs,wo,EE] at h;exact⟨h.1,λc a=>by have:=h.2 c a;omega,by rw[vY];rfl⟩
def sg(s:Aj)(l:List Aj):Bool:=l.any (eqB s)
theorem Ć(s:Aj)(l:List Aj):sg s l=decide (s∈l):=by rw[Ĝ];simp only[sg,Mn,zr,Cj];exact⟨λ⟨x,b,a⟩=>a▸b,λh=>⟨s,h,rfl⟩⟩
theorem aP9 r(h:Ak):BF cx 227 [.int y4 r] h (zu (decide (gD r))) h:=by
 let b:∀(lo j) (h:Ak),BF cx 352 [.int y4 lo,.int y4 j] h (z5 (z7 404) [] [.CO [.int y4 lo],.CO [.int y4 j]]) h:=λlo j h=>by simp[Wf]
 let e:∀(v:Ad) (h:Ak),v.cells=[v]->BF cx 351 [v] h (z5 (z7 403) [] [.CO [v]]) h:=λv h l=>by simp[aD,l]
 let c:=aPI (L:=[(9,10),(12,13),(32,32)]) AR r h;let a:AB (.Df 1) [z5 (z7 404) [] [.CO [.int y4 9],.CO [.int y4 10]],z5 (z7 404) [] [.CO [.int y4 12],.CO [.int y4 13]],z5 (z7 404) [] [.CO [.int y4 32],.CO [.int y4 32]]]=zw (.sl 1 ([(9,10),(12,13),(32,32)].map YM)):=rfl;let d:∀v:Ad,C6 (z5 (z7 403) [] [v]) [.int y4 r]=zw (403,[.int y4 r,v]):=λ_=>rfl;let k:=e (.sl 1 ([(9,10),(12,13),(32,32)].map YM)) h rfl;let m:decide (gD r)=([(9,10),(12,13),(32,32)].any λp=>decide (p.1<=r/\r<=p.2)):=by
  let a:gD r↔((9<=r/\r<=10)\/(12<=r/\r<=13)\/(32<=r/\r<=32)):=by rw[gD];omega
  simp only[Iy,RK,Np,<-x8,DG];exact a
 simp only[m,Ac,ZV,abS,b 9 10 h,b 12 13 h,b 32 32 h,a,k,d,c]
def aB4(d:IT):List Ad->IT
 |[yu s,yu l]=>match okB l with
  |z8=>zq (zu (sg s (Į [] l)))
  |zy=>d
 |_=>d
def aB5(d:IT):List Ad->IT
 |[yu l]=>match okB l with
  |z8=>zq (.sl 1 ((Į [] l).map BY))
  |zy=>d
 |_=>d
def aB6(d:IT):List Ad->IT
 |[.int y4 r]=> x4 .ret [zu (decide (gD r))]
 |_=>d
noncomputable def aQa(f:FuncId)(a:List Ad):IT:=
 match x6 f 237 with
 |z8=>aB4 (tab f a) a
 |zy=>match x6 f 359 with
  |z8=>aB5 (tab f a) a
  |zy=>match x6 f 227 with
   |z8=>aB6 (tab f a) a
   |zy=>tab f a
theorem aGd:aLd cx aQa:=by
 intro f args;rw[aQa];split
 .rename_i b;have b:=Pd b;subst b;unfold aB4;split
  .rename_i s l;split;.rename_i c;refine .inr λn h r e=>?_;rw[mR e,Ć];exact Is.of (aP8 (zt c) s h)
   .exact .inl (by rw[UN])
  .exact .inl (by rw[UN])
 .split
  .rename_i b;have b:=Pd b;subst b;unfold aB5;split
   .rename_i l;split;.rename_i c;refine .inr λn h r e=>?_;exact mR e▸Is.of (aBK (zt c) h)
    .exact .inl (by rw[UN])
   .exact .inl (by rw[UN])
  .split
   .rename_i b;have b:=Pd b;subst b;unfold aB6;split
    .rename_i a;refine .inr λn h r e=>?_;cases n
     .simp[IT.run] at e
     next n=>rw[IT.run,IT.step,BN] at e;exact e▸Is.of (aP9 a h)
    .exact .inl (by rw[UN])
   .exact .inl (by rw[UN])
end Go.Am
end
