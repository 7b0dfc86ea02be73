/- Lemmas -/
import Derived.Test.YtjbidlnjecppfaaGreatDoorS1
import Derived.Test.YtjbidlnjecppfaaGreatDoorProg
import Derived.IntWalk
set_option linter.all false
open Option renaming some→zn,none→yz
open List renaming length→zz,replicate→α
open Go.Am.Ad renaming int→zs,bool→zg,tuple→yt,ptr→y9,func→zx,map→vx,slnil→zc,agg→z3,iface→αa
open Bool renaming true→zb,false→zt
open Go.Am.DH renaming cells→z0
open Go.Am.IT renaming ret→z8,fail→x1,load→x2,call→vq
open Go.IntKind renaming i64→yv,i32→xu
open Go.Am.Dz renaming ret→z7
namespace Go.Am
open Go
mutual
def Ad.still:Ad->Bool
 | y9 (zn _)| .CK _ _ _ _| vx (zn _)=>zt
 | .CO cs| z3 cs| yt cs=>Lb cs
 | .sl _ AH=>OX AH
 | zx _ a b=>Lb a&&Lb b
 | αa _ v=>Ad.still v
 |_=>zb
def Lb:List Ad->Bool
 |[]=>zb
 |a::l=>Ad.still a&&Lb l
def OX:List (List Ad)->Bool
 |[]=>zb
 |a::l=>Lb a&&OX l
end
def Ì(h:Ak):List Ad->Option (Ak×Ad)
 |[y9 (zn (y,0)),zs yv x]=>match h[y]? with
  |zn (z0 (.CK b r n 13::_))=>match h[b]? with
   |zn (z0 u)=>if 1<=x/\x<=n/\r+n*13<=zz u then
     match(u.drop (r+(x.toNat-1)*13)).take 13 with
     |[o,l,p,k,j,i,g,f,e,d,t,zs yv c,oE]=>
      if Lb [o,l,k,j,i,g,f,e,d,t,oE] then
       match p with
       | zc=>zn (h,yt [.CO [o,l,zc,k,j,i,g,f,e,d,t,zs yv c,oE],zs yv c,.sl 1 []])
       | .CK z a m 1=>match h[z]? with
        |zn (z0 s)=>if a+m*1<=zz s/\OX (CP s 1 a m)=zb then
         zn (h,yt [.CO [o,l,.sl 1 (CP s 1 a m),k,j,i,g,f,e,d,t,zs yv c,oE],zs yv c,.sl 1 (CP s 1 a m)]) else yz
        |_=>yz
       |_=>yz
      else yz
     |_=>yz
    else yz
   |_=>yz
  |_=>yz
 |_=>yz
def Jg(f:FuncId)(a:Ad):Nat->Int->Nat->Aj->(Aj->IT)->IT
 |0,_,_,_,_=> x1
 |h+1,x,d,l,k=> .mem (.Ul Ì) [a,zs yv x] λr=>match r with
  | yt [.CO j,zs _ c,.sl _ Bj]=> .uc f [.CO j] λm=>match m with
   | .str s=>
    let e:=l++α (2*d) 32++s++[10]
    let b:Aj->IT:=Bj.foldr (λn K l=>match n with
     |[zs yv y]=>Jg f a h y (d+1) l K
     |_=> x1) k
    if zz e<=AN then(if c=0 then b e else Jg f a h c (d+1) e b) else x1
   |_=> x1
  |_=> x1
def vp(b:FuncId):List Ad->IT
 |[a,zs yv x]=>Jg b a 100 x 0 [] λc=> z8 z7 [.str c]
 |_=> x1
def Ie(b:List Ad)(a:Nat)(h:Int)(k:Nat):Option Int:=
 match b[a+(h.toNat-1)*13+k]? with
 |zn (zs yv n)=>zn n
 |_=>yz
def NF(d:List Ad)(a n:Nat)(up:Int):Nat->Int->Option Bool
 |_,0=>zn zt
 |0,_=>yz
 |b+1,h=>if h=up then zn zb else if 1<=h/\h<=n then
   match Ie d a h 1,Ie d a h 12 with
   |zn p,zn q=>NF d a n up b (if p=0 then q else p)
   |_,_=>yz
  else yz
def PJ(h:Ak):List Ad->Option (Ak×Ad)
 |[y9 (zn (j,0)),zs yv up,zs yv x]=>match h[j]? with
  |zn (z0 (zc::_))=>zn (h,zg zt)
  |zn (z0 (.CK a d n 13::_))=>match h[a]? with
   |zn (z0 f)=>if d+n*13<=zz f then
    (if 1<=up/\up<=n/\1<=x/\x<=n then(NF f d n up (n+1) x).map λb=>(h,zg b) else zn (h,zg zt)) else yz
   |_=>yz
  |_=>yz
 |_=>yz
def PK(a:List Ad):IT:= .mem (.Ul PJ) a λr=> z8 z7 [r]
def ka(t:TypeId)(h:Ak):List Ad->Option (Ak×Ad)
 |[αa a v]=>if a=t then zn (h,v) else yz
 |_=>yz
def cM(e b:FuncId)(t:TypeId):List Ad->IT
 |[y9 (zn (d,0)),s]=> x2 (zn 3) (y9 (zn (d,0))) λv=> .same v (z3 [zs .u32 0,zs xu 0,zs .u32 0]) (
  .store 1 (y9 (zn (d,1))) (zs xu 1) (
  vq e [y9 (zn (d,0))] λ_=>
  x2 (zn 3) (y9 (zn (d,0))) λv=> .same v (z3 [zs .u32 0,zs xu 1,zs .u32 0]) (
  .store 1 (y9 (zn (d,0))) (zs .u32 1) (
  .store 1 (y9 (zn (d,1))) (zs xu 0) (
  x2 yz (y9 (zn (d,3))) λv=> .mem (.Ul (ka t)) [v] λu=> vq b [u,s] λr=> z8 z7 [r])))))
 |_=> x1
def ZC(h:Ak):List Ad->Option (Ak×Ad)
 |[]=>zn (h++[.CV]++[z0 [zs yv 0,zs yv 0,zc,zs yv 0,zs yv 0,.str [],zc,.str [],.str [],.str [],zg zt,zs yv 0,zs yv 0]]++[z0 [zs yv 0]]++
  [z0 [.CK (zz h+1) 0 1 13,.CK (zz h+2) 0 1 1]],y9 (zn (zz h+3,0)))
 |_=>yz
def ZD(a:List Ad):IT:= .mem (.Ul ZC) a λr=> z8 z7 [r]
def Í(x:Int):Bool:=decide (-9223372036854775808<=x)&&decide (x<9223372036854775808)
end Go.Am
open Go.IntKind renaming u8→x0
open List renaming range→ε
open Go.Am.Sh renaming val→αa,box→αb
open Go.Proofs.Tryz renaming prog→αc
def _root_.Dv{p:Prop}(h:p:=by kernel_rfl):p:=h
namespace Go.Am
def aMP:FuncId->Nat->List (Nat×Sh)
 |3,12=>[(6,.val),(11,.val)]
 |3,4=>[(6,.val),(7,.val)]
 |7,5=>[(4,.val),(5,.val),(6,.val),(9,.val)]
 |11,2=>[(4,.val),(5,.val)]
 |17,2=>[(2,.val),(3,.val)]
 |43,4=>[(4,.val),(5,.val)]
 |44,12=>[(94,.val)]
 |44,5=>[(3,.box 13 []),(63,.val)]
 |45,7=>[(3,.box 13 []),(5,.val)]
 |45,3=>[(3,.box 13 []),(4,.val)]
 |47,5=>[(2,.val),(3,.val),(5,.val)]
 |65,5=>[(2,.val)]
 |65,2=>[(2,.val)]
 |66,2=>[(4,.val)]
 |67,5=>[(27,.val)]
 |68,3=>[(2,.val)]
 |69,4=>[(6,.val),(26,.val)]
 |85,4=>[(2,.val)]
 |85,1=>[(2,.val)]
 |86,1=>[(4,.val)]
 |87,3=>[(4,.val)]
 |88,1=>[(2,.val)]
 |89,4=>[(6,.BD),(7,.val)]
 |95,2=>[(4,.val),(5,.val)]
 |104,8=>[(2,.val),(26,.val)]
 |121,7=>[(10,.BD),(11,.val)]
 |129,3=>[(5,.val),(6,.val),(7,.val)]
 |131,5=>[(4,.val),(5,.val),(6,.val)]
 |134,3=>[(5,.val),(6,.val)]
 |136,4=>[(4,.val),(5,.val)]
 |137,9=>[(4,.val),(6,.val)]
 |137,4=>[(4,.val),(5,.val)]
 |142,4=>[(4,.val),(5,.val)]
 |143,5=>[(3,.BD),(12,.val)]
 |144,3=>[(3,.BD),(4,.val)]
 |146,3=>[(4,.val),(6,.val)]
 |160,3=>[(9,.val)]
 |161,6=>[(6,.val),(7,.val)]
 |164,5=>[(4,.val),(5,.val),(6,.val)]
 |167,2=>[(4,.val),(8,.val)]
 |182,4=>[(4,.val),(5,.val)]
 |183,25=>[(150,.val)]
 |184,2=>[(6,.val),(7,.val),(13,.val)]
 |192,2=>[(3,.val)]
 |193,2=>[(7,.val)]
 |197,4=>[(6,.BD),(27,.val)]
 |207,2=>[(4,.val),(5,.val)]
 |209,2=>[(6,.val),(7,.val)]
 |210,2=>[(7,.val)]
 |212,4=>[(4,.val),(5,.val)]
 |216,3=>[(5,.val),(6,.val)]
 |218,24=>[(17,.val)]
 |222,3=>[(3,.val),(4,.val)]
 |224,3=>[(5,.BD),(6,.val)]
 |230,4=>[(4,.val),(11,.val)]
 |239,1=>[(11,.val)]
 |252,5=>[(3,.val)]
 |274,2=>[(4,.val),(5,.val)]
 |276,4=>[(4,.val),(5,.val)]
 |277,3=>[(5,.BD),(6,.val)]
 |278,3=>[(5,.val),(6,.val)]
 |279,2=>[(4,.val),(5,.val)]
 |283,2=>[(4,.val)]
 |294,18=>[(3,.val),(79,.val)]
 |300,2=>[(4,.val),(8,.val)]
 |303,2=>[(2,.val),(3,.val)]
 |304,7=>[(5,.val),(6,.val)]
 |304,3=>[(3,.BD),(4,.val)]
 |307,3=>[(3,.BD),(4,.val)]
 |317,2=>[(4,.val),(5,.val)]
 |321,4=>[(4,.val),(5,.val)]
 |324,3=>[(4,.val),(6,.val)]
 |325,2=>[(8,.val),(9,.val)]
 |329,2=>[(4,.val),(5,.val)]
 |330,3=>[(2,.val),(3,.val),(4,.BD),(9,.val)]
 |335,2=>[(4,.val),(10,.val)]
 |336,2=>[(2,.val),(7,.val)]
 |340,2=>[(6,.val),(7,.val)]
 |344,3=>[(5,.val),(6,.val)]
 |346,5=>[(4,.val),(6,.val)]
 |347,4=>[(13,.val),(14,.val),(15,.val)]
 |349,2=>[(4,.val),(5,.val)]
 |350,3=>[(4,.val),(5,.val),(6,.val)]
 |357,3=>[(10,.val)]
 |358,2=>[(4,.val),(8,.val)]
 |363,2=>[(2,.val),(8,.val)]
 |370,3=>[(2,.val),(6,.val)]
 |371,3=>[(5,.BD),(6,.val)]
 |373,2=>[(4,.val),(5,.val)]
 |386,2=>[(4,.val),(8,.val)]
 |387,2=>[(4,.val),(8,.val)]
 |400,27=>[(12,.val)]
 |400,21=>[(10,.val),(11,.val),(12,.val)]
 |400,18=>[(12,.val)]
 |400,5=>[(3,.val),(4,.val),(5,.val),(6,.val)]
 |403,2=>[(3,.val),(8,.val)]
 |409,2=>[(2,.val),(3,.val)]
 |410,4=>[(4,.val),(5,.val)]
 |419,2=>[(4,.val),(8,.val)]
 |424,16=>[(49,.val)]
 |424,4=>[(5,.BD),(6,.val)]
 |434,28=>[(12,.val)]
 |434,20=>[(8,.val)]
 |434,15=>[(61,.val)]
 |434,6=>[(2,.val),(4,.val),(5,.val)]
 |501,24=>[(13,.val),(14,.val)]
 |501,5=>[(5,.val),(6,.val),(32,.val)]
 |501,13=>[(5,.val),(6,.val),(10,.val)]
 |_,_=>[]
def aMQ:FuncId->Nat->uf
 |30,15=> .heap
 |49,2=> .heap
 |52,23=> .heap
 |56,12=> .heap
 |183,36=> .heap
 |416,11=> .heap
 |430,5=> .heap
 |434,6=> .heap
 |434,11=> .heap
 |_,_=> .RS
def aIQ:FuncId->Nat->Option (List (Nat×Sh))
 |61,83=>zn []
 |61,44=>zn []
 |61,35=>zn [(7,αa)]
 |62,48=>zn []
 |62,14=>zn [(2,αa),(6,αa)]
 |77,32=>zn [(9,αa)]
 |81,41=>zn [(9,αa)]
 |81,28=>zn [(1,αa)]
 |82,11=>zn [(2,αa),(6,αa)]
 |96,29=>zn [(3,αa)]
 |96,24=>zn [(9,αa)]
 |103,103=>zn [(12,αa)]
 |121,68=>zn [(10,.BD)]
 |121,48=>zn [(10,.BD)]
 |164,37=>zn []
 |164,32=>zn [(4,αa),(5,αa)]
 |164,11=>zn []
 |165,46=>zn [(4,αa),(5,αa)]
 |165,12=>zn [(1,αa),(4,αa),(5,αa)]
 |197,67=>zn [(9,αb 3 [])]
 |197,43=>zn [(9,αb 3 [])]
 |197,36=>zn [(9,αb 3 [])]
 |202,32=>zn [(6,αa),(7,αa)]
 |202,9=>zn [(1,αa),(4,αa),(5,αa)]
 |218,168=>zn [(12,αa)]
 |224,73=>zn [(7,αb 3 [])]
 |224,68=>zn [(7,αb 3 [])]
 |224,54=>zn [(7,αb 3 [])]
 |224,45=>zn [(7,αb 3 [])]
 |224,44=>zn [(7,αb 3 [])]
 |224,34=>zn [(7,αb 3 [])]
 |224,31=>zn [(7,αb 3 [])]
 |252,16=>zn [(2,αa)]
 |325,104=>zn []
 |325,39=>zn [(11,αa)]
 |347,146=>zn [(14,αa)]
 |347,70=>zn [(14,αa)]
 |347,58=>zn [(14,αa),(17,αa)]
 |_,_=>yz
def aIR:FuncId->Nat->Option (List (Nat×Sh))
 |61,3=>zn [(30,αa)]
 |62,5=>zn [(35,αa)]
 |77,1=>zn [(23,αa)]
 |81,10=>zn [(56,αa)]
 |81,2=>zn [(25,αa)]
 |82,4=>zn [(29,αa)]
 |103,12=>zn [(74,αa)]
 |103,7=>zn [(35,αa)]
 |103,4=>zn [(28,αa)]
 |165,9=>zn [(46,αa)]
 |184,16=>zn [(59,αa)]
 |184,9=>zn [(32,αa)]
 |197,12=>zn [(67,αa)]
 |197,9=>zn [(43,αa)]
 |202,6=>zn [(32,αa)]
 |218,10=>zn [(60,αa)]
 |224,13=>zn [(54,αa)]
 |224,10=>zn [(44,αa)]
 |224,6=>zn [(31,αa)]
 |252,10=>zn [(53,αa)]
 |252,8=>zn [(37,αa)]
 |271,8=>zn [(87,αa)]
 |271,6=>zn [(68,αa)]
 |271,4=>zn [(56,αa)]
 |271,1=>zn [(30,αa)]
 |325,7=>zn [(39,αa)]
 |339,2=>zn [(23,αa)]
 |347,8=>zn [(58,αa)]
 |_,_=>yz
def aSF:FuncId->Bool
 |110=>zb
 |_=>zt
def aMR:FuncId->Nat->Bool
 |44,72=>zb
 |45,73=>zb
 |45,102=>zb
 |69,41=>zb
 |85,30=>zb
 |110,5=>zb
 |115,14=>zb
 |130,23=>zb
 |151,13=>zb
 |158,12=>zb
 |158,21=>zb
 |168,12=>zb
 |175,7=>zb
 |223,16=>zb
 |312,10=>zb
 |312,24=>zb
 |312,49=>zb
 |312,77=>zb
 |354,26=>zb
 |354,31=>zb
 |357,7=>zb
 |395,26=>zb
 |395,31=>zb
 |423,7=>zb
 |434,124=>zb
 |100139,7=>zb
 |200110,5=>zb
 |200110,7=>zb
 |_,_=>zt
def aMS:FuncId->Nat->Bool
 |139,7=>zb
 |378,7=>zb
 |_,_=>zt
def aDl:FuncId->Bool
 |95=>zb
 |130=>zb
 |210=>zb
 |213=>zb
 |217=>zb
 |400=>zb
 |424=>zb
 |_=>zt
def aDm:FuncId->List (Nat×Nat)
 |65=>[(0,3)]
 |85=>[(0,3)]
 |115=>[(0,6)]
 |322=>[(1,3)]
 |397=>[(0,0)]
 |398=>[(0,0)]
 |_=>[]
def aG7:FuncId->Option (List Ad->IT)
 |48=>zn (vp 294)
 |53=>zn ZD
 |231=>zn PK
 |417=>zn (cM 429 501 394)
 |_=>yz
def aIH:FuncId->FuncId->FuncId
 |115,117=>100117
 |290,139=>100139
 |100044,110=>100110
 |100044,139=>100139
 |100117,110=>200110
 |_,f=>f
def aMT:FuncId->Bool
 |233=>zb
 |_=>zt
def aMU:FuncId->Bool
 |5=>zb
 |131=>zb
 |147=>zb
 |180=>zb
 |198=>zb
 |201=>zb
 |204=>zb
 |214=>zb
 |225=>zb
 |227=>zb
 |234=>zb
 |237=>zb
 |270=>zb
 |273=>zb
 |279=>zb
 |282=>zb
 |293=>zb
 |307=>zb
 |316=>zb
 |320=>zb
 |333=>zb
 |334=>zb
 |335=>zb
 |341=>zb
 |342=>zb
 |350=>zb
 |357=>zb
 |362=>zb
 |372=>zb
 |381=>zb
 |384=>zb
 |385=>zb
 |388=>zb
 |407=>zb
 |414=>zb
 |418=>zb
 |425=>zb
 |430=>zb
 |435=>zb
 |436=>zb
 |447=>zb
 |448=>zb
 |449=>zb
 |450=>zb
 |451=>zb
 |455=>zb
 |458=>zb
 |459=>zb
 |468=>zb
 |503=>zb
 |504=>zb
 |506=>zb
 |507=>zb
 |508=>zb
 |510=>zb
 |511=>zb
 |_=>zt
def PL:List Int:=(ε 256).map λi=>if(9<=i/\i<=13)\/i=32 then 1 else 0
def Iu:List Ad:=PL.map λn=> zs x0 n
def yJ:Nat->Option (List Ad)
 |0=>zn Iu
 |_=>yz
noncomputable def cx:Hw:={P:=αc,aIh:=λf=>aMP (Fq f),aGI:=λf=>aIQ (Fq f),aGJ:=λf=>aIR (Fq f),kind:=λf=>aMQ (Fq f),KG:=aSF,aGK:=aMU,J_:=aMR,aW:=aMS,ĳ:=aDl,Ĵ:=aDm,IF:=yJ,aIi:=aG7,alt:=aIH,Mf:=aMT}
end Go.Am
open Go.Am.Ad renaming str→zk,cells→xv
open Go.Am.Pw renaming int→zr,str→zj,part→x7,append→wx,conv→w6,geq→vn,len→vl,ext→ve
open Go.Am.DH renaming map→vw
open Go.Am.IT renaming cells→z1,step→yr,loop→x4,store→wf,Ju→vr,alloc→vg
open Go.Am.Dz renaming normal→yu,exit→y2
open Or renaming inl→yq,inr→yk
section
namespace Go.Am
open Go
section
variable{C:Hw}{Q:HN}{h:Ak}
def lD{x:Dz}{a:List Ad}:W C (z8 x a) Q h↔Q x a h:=by refine⟨λb=>?_,kC⟩;let⟨n,x',Je,h',c,q⟩:=b.succ;obtain⟨rfl,rfl,rfl⟩:=c;exact q
def cS:W C x1 Q h↔False:=by refine⟨λa=>?_,λh=>h.elim⟩;let⟨n,x',Je,h',b,q⟩:=a.succ;simp[yr] at b
def lE{Z:Type}(o:Option Z)(f:Z->Prop):Prop:=∃v,o=zn v/\f v
def Ò{Z:Type}{o a:Option Z}{f:Z->Prop}(h:o=a):lE o f=lE a f:=by rw[h]
def PR{Z:Type}{v:Z}{f:Z->Prop}:lE (zn v) f=f v:=propext (by
 constructor;.rintro⟨_,e,h⟩;cases e;exact h
 .intro h;exact⟨v,rfl,h⟩)
def yT{Z:Type}{f:Z->Prop}:lE (yz:Option Z) f=False:=propext (by
 constructor;.rintro⟨_,e,_⟩;cases e
 .exact False.elim)
def cT{o:Pw}{a:List Ad}{k:Ad->IT}:W C (.op o a k) Q h↔lE (AB o a) λv=>W C (k v) Q h:=by
 refine⟨λc=>?_,λ⟨v,d,c⟩=>aMp d c⟩;let⟨n,e,i,f,b,q⟩:=c.succ;rw[yr] at b;split at b;next v d=>exact⟨v,d,Di ⟨n,e,i,f,b,q⟩⟩
 .cases b
def Sl{n:Nat}{v:Ad}{k:List Ad->IT}:W C (z1 n v k) Q h↔lE (if zz v.cells=n then zn v.cells else yz) λl=>W C (k l) Q h:=by
 constructor
 .intro b;let⟨m,d,i,f,a,q⟩:=b.succ;rw[yr] at a;split at a;.rename_i c;exact⟨_,Ae c,Di ⟨m,d,i,f,a,q⟩⟩
  .cases a
 .rintro⟨l,e,b⟩;split at e;.rename_i c;cases e;exact uk c b
  .cases e
def jH(v:Ad)(p q:Prop):Prop:=(v= zg zb/\p)\/(v= zg zt/\q)
def kz{v a:Ad}{p q:Prop}(h:v=a):jH v p q=jH a p q:=by rw[h]
def Xu{p q:Prop}:jH (zg zb) p q=p:=by simp[jH]
def UB{p q:Prop}:jH (zg zt) p q=q:=by simp[jH]
def CW{b:Bool}{p q:Prop}:jH (zg b) p q↔(b=zb->p)/\(b=zt->q):=by cases b<;>simp[jH]
def cU{c:Prop}[Decidable c]{p q:Prop}:jH (zg (decide c)) p q↔(c->p)/\(¬c->q):=by rw[CW];simp
def PS{c:Ad}{t e:IT}:W C (.Hs c t e) Q h↔jH c (W C t Q h) (W C e Q h):=by
 constructor
 .intro a;let⟨m,d,i,f,b,q⟩:=a.succ;simp[yr] at b;split at b;.exact yq ⟨rfl,Di ⟨m,d,i,f,b,q⟩⟩
  .exact yk ⟨rfl,Di ⟨m,d,i,f,b,q⟩⟩
  .cases b
 .rintro(⟨rfl,a⟩|⟨rfl,a⟩);.exact um (λ_=>a) λh=>by cases h
  .exact um (λh=>by cases h) λ_=>a
def cV{n:Option Nat}{p:Ad}{k:Ad->IT}:W C (x2 n p k) Q h↔lE (A8 h n p) λv=>W C (k v) Q h:=by
 refine⟨λb=>?_,λ⟨v,c,b⟩=>Ļ c b⟩;let⟨m,d,f,e,a,q⟩:=b.succ;rw[yr] at a;split at a;next v c=>exact⟨v,c,Di ⟨m,d,f,e,a,q⟩⟩
 .cases a
def Yv{n:Nat}{p v:Ad}{k:IT}:W C (wf n p v k) Q h↔lE (Cv h n p v) λd=>W C k Q d:=by
 refine⟨λb=>?_,λ⟨v,c,b⟩=>uo c b⟩;let⟨m,e,i,f,a,q⟩:=b.succ;rw[yr] at a;split at a;next d c=>exact⟨d,c,Di ⟨m,e,i,f,a,q⟩⟩
 .cases a
def Yw{n:Nat}{v:Ad}{k:Ad->IT}:W C (vg n v k) Q h↔lE (if zz v.cells=n then zn v.cells else yz) λl=>W C (k (y9 (zn (zz h,0)))) Q (h++[z0 l]):=by
 constructor
 .intro b;let⟨m,f,j,i,c,q⟩:=b.succ;rw[yr,aT] at c;by_cases a:zz v.cells=n;.rw[Ae a] at c;exact⟨_,Ae a,Di ⟨m,f,j,i,c,q⟩⟩
  .grind
 .rintro⟨l,e,b⟩;split at e;.rename_i a;cases e;exact uq a b
  .cases e
def lF{u:Ad}{k:Ad->IT}:W C (.RL u k) Q h↔lE (LH h u) λx=>W C (k x.2) Q x.1:=by
 refine⟨λb=>?_,λ⟨(d,v),c,b⟩=>aGN c b⟩;let⟨m,e,i,f,a,q⟩:=b.succ;rw[yr] at a;split at a;next d v c=>exact⟨(d,v),c,Di ⟨m,e,i,f,a,q⟩⟩
 .cases a
def Yx{a:Nat}{p:Ad}{k:IT}:W C (.RR a p k) Q h↔lE (Mz h a p) λc=>W C k Q c:=by
 refine⟨λd=>?_,λ⟨c,e,d⟩=>uv e d⟩;let⟨m,f,j,i,b,q⟩:=d.succ;rw[yr] at b;split at b;next c e=>exact⟨c,e,Di ⟨m,f,j,i,b,q⟩⟩
 .cases b
section
variable{size bytes:Nat}{s x:Ad}{k:Ad->IT}
def Yy:W C (.M3 size bytes s x k) Q h↔lE (KF h size bytes s x) λx=>W C (k x.2) Q x.1:=by
 refine⟨λd=>?_,λ⟨(f,v),e,d⟩=>ur e d⟩;let⟨m,i,l,j,c,q⟩:=d.succ;rw[yr] at c;split at c;next f v e=>exact⟨(f,v),e,Di ⟨m,i,l,j,c,q⟩⟩
 .cases c
def cW:W C (.Kh size bytes s x k) Q h↔lE (Gq h size bytes s x) λx=>W C (k x.2) Q x.1:=by
 refine⟨λd=>?_,λ⟨(f,v),e,d⟩=>ŀ e d⟩;let⟨m,x,j,i,c,q⟩:=d.succ;rw[yr] at c;split at c;next f v e=>exact⟨(f,v),e,Di ⟨m,x,j,i,c,q⟩⟩
 .cases c
def T4:W C (.HL size bytes s x k) Q h↔lE (TV h size bytes s x) λv=>W C (k v) Q h:=by
 refine⟨λd=>?_,λ⟨v,e,d⟩=>kD e d⟩;let⟨m,x,i,f,c,q⟩:=d.succ;rw[yr] at c;split at c;next v e=>exact⟨v,e,Di ⟨m,x,i,f,c,q⟩⟩
 .cases c
end
def lG{o:YX}{a:List Ad}{k:Ad->IT}:W C (.mem o a k) Q h↔lE (EH o h a) λx=>W C (k x.2) Q x.1:=by
 refine⟨λc=>?_,λ⟨(e,v),d,c⟩=>aGO d c⟩;let⟨n,x,f,i,b,q⟩:=c.succ;rw[yr] at b;split at b;next e v d=>exact⟨(e,v),d,Di ⟨n,x,f,i,b,q⟩⟩
 .cases b
def Sn{s:Ad}{k:Ad->IT}:W C (.FZ s k) Q h↔lE (Ki h s) λx=>W C (k x.2) Q x.1:=by
 refine⟨λb=>?_,λ⟨(d,v),c,b⟩=>bH c b⟩;let⟨m,e,i,f,a,q⟩:=b.succ;rw[yr] at a;split at a;next d v c=>exact⟨(d,v),c,Di ⟨m,e,i,f,a,q⟩⟩
 .cases a
def UC{k:Ad->IT}:W C (.RQ k) Q h↔W C (k (vx (zn (zz h)))) Q (h++[vw []]):=by refine⟨λb=>?_,Ľ⟩;let⟨m,a,e,d,c,q⟩:=b.succ;exact Di ⟨m,a,e,d,c,q⟩
def cX{m a v:Ad}{k:IT}:W C (.Me m a v k) Q h↔lE (TU h m a v) λc=>W C k Q c:=by
 refine⟨λd=>?_,λ⟨c,e,d⟩=>ľ e d⟩;let⟨m,f,j,i,b,q⟩:=d.succ;rw[yr] at b;split at b;next c e=>exact⟨c,e,Di ⟨m,f,j,i,b,q⟩⟩
 .cases b
def cY{z:Ad}{ok:Bool}{m a:Ad}{k:Ad->IT}:W C (.N7 z ok m a k) Q h↔lE (Rc h z ok m a) λv=>W C (k v) Q h:=by
 refine⟨λc=>?_,λ⟨e,d,c⟩=>Ŀ d c⟩;let⟨m,f,j,i,b,q⟩:=c.succ;rw[yr] at b;split at b;next e d=>exact⟨e,d,Di ⟨m,f,j,i,b,q⟩⟩
 .cases b
def So{g:Ad}{a:List Ad}{k:Ad->IT}:W C (.Mp g a k) Q h↔lE (C6 g a) λx=>W C (vq x.1 x.2 k) Q h:=by
 constructor
 .intro d;let⟨m,c,j,i,b,q⟩:=d.succ;rw[yr] at b;split at b;.rename_i f l e;refine⟨(f,l),e,Di ⟨m,c,j,i,?_,q⟩⟩;rwa[yr]
  .cases b
 .rintro⟨⟨f,l⟩,e,d⟩;let⟨m,c,j,i,b,q⟩:=d.succ;refine Di ⟨m,c,j,i,?_,q⟩;simp[yr,e] at b⊢;exact b
def A9{b:Nat}{t:IT}{k:Dz->List Ad->IT}:W C (.Qp b t k) Q h↔W C t (λx c d=>W C (k x c) Q d) h:=by
 refine⟨λi=>?_,ł⟩;let⟨m,f,l,j,a,q⟩:=i.succ;rw[yr] at a;split at a;next x c d e=>exact Di ⟨m,_,_,_,e,Di ⟨m,f,l,j,a,q⟩⟩
 .cases a
abbrev BF(C:Hw)(f:FuncId)(args:List Ad)(h:Ak)(r:Ad)(h':Ak):Prop:=∀(Q:HN) (k:Ad->IT),W C (vq f args k) Q h↔W C (k r) Q h'
def Ac{C:Hw}{f:FuncId}{a:List Ad}{h t:Ak}{r:Ad}:BF C f a h r t↔W C (Cf C f a) (λx l b=>x= z7/\l=[r]/\b=t) h:=by
 constructor
 .intro p;have c:=(p (λx l b=>x= z7/\l=[r]/\b=t) λv=> z8 z7 [v]).2 (kC ⟨rfl,rfl,rfl⟩);obtain⟨m,x,l,b,e,rfl,rfl,rfl⟩:=c.succ;rw[yr] at e;split at e;.rename_i g;cases e;exact⟨m,_,_,_,g,rfl,rfl,rfl⟩
  .cases e
 .intro p Q k;refine⟨λc=>?_,λc=>Ł (W.mono p λ_ _ _ ⟨b,s,i⟩=>⟨b,r,s,i▸c⟩)⟩;obtain⟨n,u,j,b,o,rfl,rfl,rfl⟩:=p;let⟨m,z,A,s,d,q⟩:=c.succ;rw[yr] at d;split at d;.rename_i r2 i g;have y:=vr (IC n m) g;rw[vr (Jb n m) o] at y;cases y;exact Di ⟨m,z,A,s,d,q⟩
  .cases d
section
variable{f:FuncId}{args:List Ad}{r:Ad}{h':Ak}(hr:BF C f args h r h')
def BF.ev{R:Ad->Ak->Prop}(a:R r h'):Ev C f args h R:=
 W.mono (Ac.1 hr) λ_ _ _ ⟨c,b,d⟩=>⟨c,r,b,d▸a⟩
def BF.KS{k:Ad->IT}:W C (vq f args k) Q h↔W C (k r) Q h':=hr _ _
end
def JY(C:Hw)(f:FuncId)(a:List Ad)(r:Ad):Prop:=Ev C f a [] λx _=>x=r
def JY.BG{f:FuncId}{a:List Ad}{r:Ad}(l:JY C f a r)(p:a.all Ad.OJ=zb)(o:r.OJ=zb){k:Ad->IT}:W C (.BG f a k) Q h↔W C (k r) Q h:=by
 refine⟨λb=>?_,λb=>aCX p (l.mono λx _ e=>e▸⟨o,b⟩)⟩;obtain⟨n,j,i,h1,g,rfl,y,rfl,rfl⟩:=l;let⟨m,t,v,u,d,q⟩:=b.succ;simp[yr,p,BV] at d;rw[Hw.run] at g d;cases c:IT.run (Cf C) m (Cf C f a) [] with
 |none=>rw[c] at d;cases d
 |some z=>have s:=vr (IC n m) c;rw[vr (Jb n m) g] at s;cases s;rw[c] at d;simp[o,BV] at d;exact Di ⟨m,t,v,u,d,q⟩
end
def aDH{C:Hw}{t a:IT}{Q:HN}{h b:Ak}(e:t=a)(d:h=b):W C t Q h=W C a Q b:=by rw[e,d]
def Ž{o:Pw}{b a:List Ad}{k:Ad->IT}(e:b=a):IT.op o b k=IT.op o a k:=by rw[e]
def yU{n:Nat}{v a:Ad}{k:List Ad->IT}(e:v=a):IT.cells n v k=IT.cells n a k:=by rw[e]
def Ó{v a:Ad}{s t:IT}(e:v=a):IT.Hs v s t=IT.Hs a s t:=by rw[e]
def k_{n:Option Nat}{v a:Ad}{k:Ad->IT}(e:v=a):IT.load n v k=IT.load n a k:=by rw[e]
def yV{n:Nat}{p b v a:Ad}{k:IT}(d:p=b)(e:v=a):IT.store n p v k=IT.store n b a k:=by rw[e,d]
def yW{n:Nat}{v a:Ad}{k:Ad->IT}(e:v=a):IT.alloc n v k=IT.alloc n a k:=by rw[e]
section
variable{f:FuncId}{args args':List Ad}{k:Ad->IT}(e:args=args')
def lf:IT.call f args k=IT.call f args' k:=by rw[e]
def yX:IT.BG f args k=IT.BG f args' k:=by rw[e]
end
def yY{f c:Ad}{b a:List Ad}{k:Ad->IT}(d:f=c)(e:b=a):IT.Mp f b k=IT.Mp c a k:=by rw[e,d]
def lg{a:Nat}{i c:List Ad}{b:List Ad->IT}{k:Dz->List Ad->IT}(e:i=c):IT.loop a i b k=IT.loop a c b k:=by rw[e]
def lj{a:Nat}{b:IT}{k:Dz->List Ad->IT}:IT.Qp a b k=IT.Qp a b k:=rfl
def Ô{v a:Ad}{k:Ad->IT}(e:v=a):IT.RL v k=IT.RL a k:=by rw[e]
section
variable{size bytes:Nat}{s s' x x':Ad}{k:Ad->IT}(e:s=s')(d:x=x')
def yZ:IT.M3 size bytes s x k=IT.M3 size bytes s' x' k:=by rw[e,d]
def lp:IT.Kh size bytes s x k=IT.Kh size bytes s' x' k:=by rw[e,d]
end
def Õ{o:YX}{b a:List Ad}{k:Ad->IT}(e:b=a):IT.mem o b k=IT.mem o a k:=by rw[e]
def jI{b a:Nat}{s f x c:Ad}{k:Ad->IT}(e:s=f)(d:x=c):IT.HL b a s x k=IT.HL b a f c k:=by rw[e,d]
def zB{a:Nat}{p b:Ad}{k:IT}(e:p=b):IT.RR a p k=IT.RR a b k:=by rw[e]
def cZ{s a:Ad}{k:Ad->IT}(e:s=a):IT.FZ s k=IT.FZ a k:=by rw[e]
def lq{m h b a v c:Ad}{k:IT}(e:m=h)(f:b=a)(d:v=c):IT.Me m b v k=IT.Me h a c k:=by rw[e,f,d]
def ls{z:Ad}{ok:Bool}{m c b a:Ad}{k:Ad->IT}(e:m=c)(d:b=a):IT.N7 z ok m b k=IT.N7 z ok c a k:=by rw[e,d]
attribute [congr] Ò kz aDH Ž yU Ó k_ yV yW lf yX yY lg lj Ô zB lp jI Õ yZ cZ lq ls
attribute [simp] PR yT Xu UB cU CW lD cS cT Sl PS cV Yv Yw lF Yx cW T4 lG Yy Sn UC cX cY So A9
section
variable{k:IntKind}{a b:Int}{s t:Aj}
@[simp] theorem aJc:AB (.int .eql) [.int k a,.int k b]=some (.bool (decide (a=b))):=by cases k<;>rfl
@[simp] theorem aJd:AB (.int .neq) [.int k a,.int k b]=some (.bool (decide (a≠b))):=by
 have e:AB (.int .neq) [.int k a,.int k b]=some (.bool (!(a==b))):=by cases k<;>rfl
 rw[e];by_cases h:a=b<;>simp[h]
@[simp] theorem aJe:AB (.int .lss) [.int k a,.int k b]=some (.bool (decide (a<b))):=by cases k<;>rfl
@[simp] theorem aJf:AB (.int .leq) [.int k a,.int k b]=some (.bool (decide (a<=b))):=by cases k<;>rfl
@[simp] theorem aJg:AB (.int .gtr) [.int k a,.int k b]=some (.bool (decide (b<a))):=by cases k<;>rfl
@[simp] theorem aJh:AB (.int .geq) [.int k a,.int k b]=some (.bool (decide (b<=a))):=by cases k<;>rfl
def oO:AB (zr .add) [zs k a,zs k b]=zn (zs k (k.wrap (a+b))):=by cases k<;>rfl
def ly:AB (.int .sub) [zs k a,zs k b]=zn (zs k (k.wrap (a-b))):=by cases k<;>rfl
@[simp] theorem aJi {b:Bool}:AB (.un .not) [zg b]=zn (zg (!b)):=rfl
@[simp] theorem vy:AB (.str .eql) [zk s,zk t]=zn (zg (decide (s=t))):=by
 show zn (Ad.bool (s==t))=_;congr 2
 by_cases h:s=t<;>simp[h]
@[simp] theorem aDI:AB (.str .neq) [zk s,zk t]=zn (zg (decide (s≠t))):=by
 show zn (Ad.bool (!(s==t)))=_;congr 2
 by_cases h:s=t<;>simp[h]
@[simp] theorem aDJ:AB (vl zb) [zk s]=zn (zs yv (zz s)):=rfl
@[simp] theorem aRp {i:Int}:AB .iU [zk s,zs k i]=if 0<=i then(s[i.toNat]?).map λb=> zs x0 b.toNat else yz:=rfl
@[simp] theorem oP {d:Nat} {m:List Ad}:AB (x7 d yz) [z3 m]=m[d]?:=rfl
@[simp] theorem oQ {d n:Nat} {m:List Ad}:AB (x7 d (zn n)) [z3 m]=if d+n<=zz m then zn (z3 ((m.drop d).take n)) else yz:=rfl
@[simp] theorem aJj {i:Nat} {A:List Ad}:AB (ve i) [yt A]=A[i]?:=rfl
@[simp] theorem jJ {p:Nat×Nat}:AB .K8 [y9 (zn p)]=zn (y9 (zn p)):=rfl
@[simp] theorem dB {m:List Ad}:AB .K8 [.CO m]=zn (.CO m):=rfl
@[simp] theorem dD {f:FuncId} {a b:List Ad}:AB .K8 [zx (.func f) a b]=zn (zx (.func f) a b):=rfl
@[simp] theorem jK {d:Nat} {m:List Ad}:AB (.Mo d) [.CO m]=zn (.CO (m.drop d)):=rfl
@[simp] theorem oR {d C o:Nat}:AB (.Mo d) [y9 (zn (C,o))]=zn (y9 (zn (C,o+d))):=rfl
@[simp] theorem Ö {j:Bool}:AB (.peq j) [y9 yz,y9 yz]=zn (zg (zb != j)):=rfl
@[simp] theorem Ø {j:Bool} {p:Nat×Nat}:AB (.peq j) [y9 (zn p),y9 yz]=zn (zg (zt != j)):=rfl
@[simp] theorem Ù {j:Bool} {p:Nat×Nat}:AB (.peq j) [y9 yz,y9 (zn p)]=zn (zg (zt != j)):=rfl
@[simp] theorem aJk {j a b:Bool}:AB (.beq j) [zg a,zg b]=zn (zg ((a==b) != j)):=rfl
@[simp] theorem aRq {c:Bool} {a b:Ad}:AB .pick [zg c,a,b]=zn (if c then a else b):=rfl
@[simp] theorem Tk {l:IntKind}:AB (w6 l) [zs k a]=zn (zs l (l.wrap a)):=rfl
@[simp] theorem ž {zero u:List Ad} {q:List (Nat×Nat)}:AB (.Fc zero q) u=if zz q=zz u then(AP zero (q.zip u)).map z3 else yz:=rfl
@[simp] theorem UD {j:Bool} {B:List FK} {x y:List Ad}:AB (vn j B) [z3 x,z3 y]=(EI B x y).map λe=> zg (e != j):=rfl
@[simp] theorem ſ:AB (.Nr zt) [zs k a,zs k b]=zn (zs k (if b<a then b else a)):=by simp[AB]
@[simp] theorem oS:AB (.Nr zb) [zs k a,zs k b]=zn (zs k (if a<b then b else a)):=by simp[AB]
@[simp] theorem dE {h:Ak} {n:Option Nat} {m:List Ad}:A8 h n (.CO m)=Gp m 0 n:=rfl
@[simp] theorem Fg {d:Nat} {m:List Ad}:Gp m d yz=m[d]?:=rfl
@[simp] theorem OY {d n:Nat} {m:List Ad}:Gp m d (zn n)=if d+n<=zz m then zn (z3 ((m.drop d).take n)) else yz:=rfl
@[simp] theorem wrap_i64 (h1: -9223372036854775808<=a) (h2:a<9223372036854775808):IntKind.i64.wrap a=a:=by rw[IntKind.wrap_i64];omega
end
def Tl{a:List Ad}:xv (z3 a)=a:=rfl
def lH{k:IntKind}{n:Int}:xv (zs k n)=[zs k n]:=rfl
def Tm{s:Aj}:xv (zk s)=[zk s]:=rfl
def dF{b:Bool}:xv (zg b)=[zg b]:=rfl
def lI{p:Option (Nat×Nat)}:xv (y9 p)=[y9 p]:=rfl
def dG{p:List Ad}:xv (.CO p)=[.CO p]:=rfl
def Yz:xv zc=[zc]:=rfl
def zC{z:Nat}{r:List (List Ad)}:xv (.sl z r)=[.sl z r]:=rfl
def lJ{i o l z:Nat}:xv (.CK i o l z)=[.CK i o l z]:=rfl
def dH{f:Fn}{a b:List Ad}:xv (zx f a b)=[zx f a b]:=rfl
attribute [simp] AP EI Ns C6 Tl lH Tm dF lI dG Yz zC lJ dH
def AY(z:Nat)(AH:List (List Ad))(v:Ad):Prop:=v= .sl z AH\/(v= zc/\AH=[])
section
variable{z:Nat}{AH:List (List Ad)}{v:Ad}
def AY.mk:AY z AH (.sl z AH):= yq rfl
def AY.nil:AY z [] zc:= yk ⟨rfl,rfl⟩
def AY.cells(h:AY z AH v):v.cells=[v]:=by obtain rfl|⟨rfl,rfl⟩:=h<;>rfl
def AY.len(h:AY z AH v):AB (vl zt) [v]=zn (zs yv (zz AH)):=by obtain rfl|⟨rfl,rfl⟩:=h<;>rfl
def AY.EM(h:AY z AH v){k:IntKind}{n:Nat}(a:n<zz AH):AB (.EM z) [v,zs k (n:Int)]=zn (.CO AH[n]):=by
 obtain rfl|⟨rfl,rfl⟩:=h
 .simp[AB,elemOf,a]
 .simp at a
end
section
variable{C:Hw}{Q:HN}{h:Ak}
def Sp{c:Nat}{u:List Ad}{a:List Ad->IT}{k:Dz->List Ad->IT}
  (i:W C (a u) (λx d n=>(x= yu/\W C (x4 c d a k) Q n)\/(x≠ yu/\W C (k x d) Q n)) h):W C (x4 c u a k) Q h:=by
 let⟨m,x,d,n,v,y⟩:=i.succ;rcases y with⟨rfl,i⟩|⟨hx,i⟩
 .let⟨b,j,p,o,s,q⟩:=i;refine Di ⟨max m b,j,p,o,?_,q⟩;have f:=IT.Ls (λt h r=>vr (Jb m b)) _ _ _ v;have e:=vr (IC m b) s;rw[yr];grind
 .let⟨b,j,p,o,s,q⟩:=i.succ;refine Di ⟨max m b,j,p,o,?_,q⟩;have f:=IT.Ls (λt h r=>vr (Jb m b)) _ _ _ v;have e:=IT.Ls (λt h r=>vr (IC m b)) _ _ _ s;rw[yr];grind
def AM{U:Type}(C:Hw)(b:U->List Ad)(e:U->Ak->Prop)(O:U->Nat)(k:Dz->List Ad->IT)(Q:HN)(s:U):HN:=
 λx c d=>(x= yu/\∃a,c=b a/\e a d/\O a<O s)\/(x≠ yu/\W C (k x c) Q d)
variable{U:Type}{enc:U->List Ad}{ED:U->Ak->Prop}{O:U->Nat}{k:Dz->List Ad->IT}{s:U}{vs:List Ad}
def AM.next(a:U)(e:vs=enc a)(f:ED a h)(d:O a<O s):AM C enc ED O k Q s yu vs h:= yq ⟨rfl,a,e,f,d⟩
def jL{i:Nat}:AM C enc ED O k Q s (y2 i) vs h↔W C (k (y2 i) vs) Q h:=by simp[AM]
def oT:AM C enc ED O k Q s z7 vs h↔W C (k z7 vs) Q h:=by simp[AM]
def Bm{e:Nat}{c:List Ad}{a:List Ad->IT}(b:U->List Ad)(f:U->Ak->Prop)(O:U->Nat)(i:U)(h0:c=b i)(hi:f i h)
  (round:∀s h,f s h->W C (a (b s)) (AM C b f O k Q s) h):W C (x4 e c a k) Q h:=by
 have e:∀n s h,O s=n->f s h->W C (x4 e (b s) a k) Q h:=by
  intro n;induction n using Nat.strongRecOn with
  |_ n ih=>
   intro s h hn o;refine Sp (W.mono (round s h o) ?_);rintro x vs h1 (⟨rfl,s',rfl,d,hl⟩|⟨l,m⟩);.grind
   .exact yk ⟨l,m⟩
 grind
end
section
variable{k l:IntKind}{s:Aj}
def Gt{n:Nat}(b:n<zz s):AB .iU [zk s,zs k (n:Int)]=zn (zs x0 (s[n].toNat:Int)):=by simp[b]
def Xv{n:Nat}(hn:n<9223372036854775807):AB (zr .add) [zs yv (n:Int),zs yv 1]=zn (zs yv ((n+1:Nat):Int)):=by rw[oO,wrap_i64 Ab Ab];rfl
def BB(n:Nat)(b:n<9223372036854775807:=by omega):AB (zr .add) [zs yv (n:Int),zs yv 1]=zn (zs yv ((n+1:Nat):Int)):=Xv b
def Of{n:Nat}:(0:Int)<=(n:Int):=Ab
def Jq:¬(1:Int)=0/\¬(1:Int)=2/\¬(1:Int)=3/\¬(1:Int)=4/\¬(1:Int)=5/\¬(1:Int)=6/\¬(2:Int)=1/\¬(2:Int)=3/\¬(2:Int)=4/\¬(2:Int)=5/\¬(2:Int)=6/\¬(3:Int)=0/\¬(3:Int)=2/\¬(3:Int)=4/\¬(3:Int)=5/\¬(3:Int)=6/\¬(4:Int)=1/\¬(4:Int)=2/\¬(4:Int)=5/\¬(6:Int)=2/\¬(6:Int)=4/\¬(6:Int)=5:=AR
def IK{n:Nat}(h0:0<n)(hn:n<9223372036854775807):AB (zr .sub) [zs yv (n:Int),zs yv 1]=zn (zs yv ((n-1:Nat):Int)):=by rw[ly,wrap_i64 Ab Ab];congr 2;omega
def Og{a b z:Nat}(iP:a<=b)(hb:b<=zz s):AB (.LK z zb zb zb) [zk s,zs k (a:Int),zs l (b:Int)]=zn (zk ((s.take b).drop a)):=by
 have e:Fv (b:Int) (zz s)=zn b:=by rw[Fv];rw[Ae Ab];rfl
 have d:Fv (a:Int) b=zn a:=by rw[Fv];rw[Ae Ab];rfl
 simp[AB,Kg,En,e,d]
end
section
variable{z b:Nat}{r d:List (List Ad)}{row:List Ad}{v f:Ad}
def AY.zD(h:AY z r v)(a:(zz r+1)*b<=AN):AB (wx z b) [v,.sl z [row]]=zn (.sl z (r++[row])):=by
 obtain rfl|⟨rfl,rfl⟩:=h
 .simp[AB,Jd,Ee,a]
 .have:1*b<=AN:=zv a
  rw[GO] at this;simp[AB,Jd,Ee,this]
def AY.If(h:AY z r v)(j:AY z d f)(hb:(zz r+zz d)*b<=AN):∃u,AB (wx z b) [v,f]=zn u/\AY z (r++d) u:=by
 have a:∃u,Ee z b v []=zn u/\AY z (r++[]) u:=by
  obtain rfl|⟨rfl,rfl⟩:=h
  .exact⟨.sl z r,by simp[Ee],by rw[Br];exact .mk⟩
  .exact⟨_,rfl,.nil⟩
 obtain rfl|⟨rfl,rfl⟩:=j
 .cases d with
  |nil=>let⟨u,e,c⟩:=a;exact⟨u,by simpa[AB,Jd] using e,c⟩
  |cons x l=>
   refine⟨.sl z (r++x::l),?_,.mk⟩;obtain rfl|⟨rfl,rfl⟩:=h
   .simp only[AB,Jd,BV,Ee];grind
   .simp only[AB,Jd,BV,Ee];grind
 .let⟨u,e,c⟩:=a;exact⟨u,by simpa[AB,Jd] using e,c⟩
def AY.RL(h:AY z r v){a:Ak}:LH a v=zn (a,v):=by obtain rfl|⟨rfl,rfl⟩:=h<;>rfl
def UE(s:Aj):OP (Cs s)=zn s:=by
 induction s with
 |nil=>rfl
 |cons c s a=>have e:Cs (c::s)=[zs x0 c.toNat]::Cs s:=rfl;rw[e,OP,a];simp
def AY.aQ{s:Aj}(h:AY 1 (Cs s) v):AB .aQ [v]=zn (zk s):=by
 obtain rfl|⟨rfl,h⟩:=h
 .simp[AB,aS,UE]
 .have e:s=[]:=by simpa[Cs] using h
  subst e;rfl
def T5(s t:Aj):Cs (s++t)=Cs s++Cs t:=by simp[Cs]
def jM(s:Aj):(Cs s).length=zz s:=by simp[Cs]
end
@[simp] theorem vz {z:Nat} {args:List Ad}:AB (.Df z) args=if args.all (λa=>a.cells.length==z)&&decide (args.length*z<=16777216) then some (.sl z (args.map (·.cells))) else none:=rfl
def Oh{a:Ad}{z:Nat}(h:zz a.cells=z)(b:z<=16777216):AB (.Df z) [a]=zn (.sl z [a.cells]):=by simp[h,b]
def wrap_u8{a:Int}(h:0<=a/\a<=255):IntKind.u8.wrap a=a:=IntWalk.u8_in a h
def aAa{a:Int}(h: -2147483648<=a/\a<=2147483647):IntKind.i32.wrap a=a:=IntWalk.i32_in a h
section
variable(C:Hw)(f:FuncId)
abbrev Tq1(t:Ad->IT):Prop:=∀a0,Cf C f [a0]=t a0
abbrev Tq2(t:Ad->Ad->IT):Prop:=∀a0 a1,Cf C f [a0,a1]=t a0 a1
abbrev Tq3(t:Ad->Ad->Ad->IT):Prop:=∀a0 a1 a2,Cf C f [a0,a1,a2]=t a0 a1 a2
abbrev Tq4(t:Ad->Ad->Ad->Ad->IT):Prop:=∀a0 a1 a2 a3,Cf C f [a0,a1,a2,a3]=t a0 a1 a2 a3
abbrev Tq5(t:Ad->Ad->Ad->Ad->Ad->IT):Prop:=∀a0 a1 a2 a3 a4,Cf C f [a0,a1,a2,a3,a4]=t a0 a1 a2 a3 a4
end
section
variable(p:Ad)(k:Nat)
def IT.fa(K:Ad->Ad->IT):IT:= .op .K8 [p] λa=> .op (.Mo k) [a] λb=>K a b
def IT.RM(K:Ad->Ad->Ad->IT):IT:= .op .K8 [p] λa=> .op (.Mo k) [a] λb=> x2 yz b λc=>K a b c
def IT.fl(K:Ad->Ad->IT):IT:= .op (.Mo k) [p] λa=> x2 yz a λb=>K a b
end
def nx(A R:List Ad->IT):Dz->List Ad->IT:=λx c=>match x with
 | yu=>A c
 | y2 _=> x1
 | z7=>R c
def lx(k:Nat)(A R:List Ad->IT):Dz->List Ad->IT:=λx c=>match x with
 | yu=> x1
 | y2 i=>if i=k then A c else x1
 | z7=>R c
section
variable{C:Hw}{Q:HN}{h:Ak}{p:Ad}{k:Nat}{A R:List Ad->IT}{c:List Ad}
def aS1{K:Ad->Ad->IT}:W C (IT.fa p k K) Q h=W C (.op .K8 [p] λa=> .op (.Mo k) [a] λb=>K a b) Q h:=rfl
def aNd{K:Ad->Ad->Ad->IT}:W C (IT.RM p k K) Q h=W C (.op .K8 [p] λa=> .op (.Mo k) [a] λb=> x2 yz b λc=>K a b c) Q h:=rfl
def aS2{K:Ad->Ad->IT}:W C (IT.fl p k K) Q h=W C (.op (.Mo k) [p] λa=> x2 yz a λb=>K a b) Q h:=rfl
def aS3:nx A R yu c=A c:=rfl
def aS4:nx A R z7 c=R c:=rfl
def aS5:lx k A R (y2 k) c=A c:=Ae rfl
def aS6:lx k A R z7 c=R c:=rfl
end
def DS:Aj->Aj->List Aj
 |a,[]=>[a]
 |a,c::r=>if c=32 then a::DS [] r else DS (a++[c]) r
def PT:List Aj:=DS [] a2u
def swv(s:Ad)(t e:IT):List (List UInt8)->IT
 |[]=>e
 |c::a=>.op (zj .eql) [s,zk c] λv=>.Hs v t (swv s t e a)
abbrev IT.rr(l:List Ad):IT:=z8 z7 l
abbrev IT.rn(l:List Ad):IT:=z8 yu l
abbrev IT.rx(n:Nat)(l:List Ad):IT:=z8 (y2 n) l
abbrev IT.ea(n:Nat)(l:List Ad)(k:Ad->IT):IT:=.op (.EM n) l k
abbrev IT.ld(p:Ad)(k:Ad->IT):IT:=x2 yz p k
section
variable(l:List Ad)(k:Ad->IT)
abbrev IT.ie:IT:=.op (zr .eql) l k
abbrev IT.iq:IT:=.op (zr .neq) l k
abbrev IT.il:IT:=.op (zr .lss) l k
abbrev IT.ig:IT:=.op (zr .gtr) l k
abbrev IT.ia:IT:=.op (zr .add) l k
abbrev IT.ib:IT:=.op (zr .sub) l k
abbrev IT.ih:IT:=.op (zr .geq) l k
abbrev IT.ik:IT:=.op (zr .leq) l k
abbrev IT.se:IT:=.op (zj .eql) l k
abbrev IT.ln:IT:=.op (vl zt) l k
abbrev IT.lt:IT:=.op (vl zb) l k
abbrev IT.nt:IT:=.op (.un .not) l k
end
abbrev IT.ca(f:Nat)(l:List Ad)(k:Ad->IT):IT:=vq f l k
abbrev i0:Ad:=I 0
abbrev i1:Ad:=I 1
abbrev tu:Ad:=yt []
abbrev pn:Ad:=y9 yz
def a13(c:List Ad):Ad:=z3 [g c 0,g c 1,g c 2,g c 3,g c 4,g c 5,g c 6,g c 7,g c 8,g c 9,g c 10,g c 11,g c 12]
def a13_e{c:List Ad}:a13 c=z3 [g c 0,g c 1,g c 2,g c 3,g c 4,g c 5,g c 6,g c 7,g c 8,g c 9,g c 10,g c 11,g c 12]:=rfl
def a12(c:List Ad):Ad:=z3 [g c 0,g c 1,g c 2,g c 3,g c 4,g c 5,g c 6,g c 7,g c 8,g c 9,g c 10,g c 11]
def a12_e{c:List Ad}:a12 c=z3 [g c 0,g c 1,g c 2,g c 3,g c 4,g c 5,g c 6,g c 7,g c 8,g c 9,g c 10,g c 11]:=rfl
def a9(c:List Ad):Ad:=z3 [g c 0,g c 1,g c 2,g c 3,g c 4,g c 5,g c 6,g c 7,g c 8]
def a9_e{c:List Ad}:a9 c=z3 [g c 0,g c 1,g c 2,g c 3,g c 4,g c 5,g c 6,g c 7,g c 8]:=rfl
def a6(c:List Ad):Ad:=z3 [g c 0,g c 1,g c 2,g c 3,g c 4,g c 5]
def a6_e{c:List Ad}:a6 c=z3 [g c 0,g c 1,g c 2,g c 3,g c 4,g c 5]:=rfl
def a4(c:List Ad):Ad:=z3 [g c 0,g c 1,g c 2,g c 3]
def a4_e{c:List Ad}:a4 c=z3 [g c 0,g c 1,g c 2,g c 3]:=rfl
def a3(c:List Ad):Ad:=z3 [g c 0,g c 1,g c 2]
def a3_e{c:List Ad}:a3 c=z3 [g c 0,g c 1,g c 2]:=rfl
def ai{a b:Prop}(x:a)(y:b):a/\b:=⟨x,y⟩
def By:=ai @a13_e (ai @a12_e (ai @a9_e (ai @a6_e (ai @a4_e (ai @a3_e (ai @aS1 (ai @aNd (ai @aS2 (ai @aS3 (ai @aS4 (ai @aS5 (ai @aS6 (ai @PR (ai @yT (ai @Xu (ai @UB (ai @cU (ai @lD (ai @cS (ai @cT (ai @Sl (ai @PS (ai @cV (ai @Yv (ai @Yw (ai @lF (ai @Yx (ai @cW (ai @T4 (ai @lG (ai @Yy (ai @Sn (ai @UC (ai @cX (ai @cY (ai @So (ai @A9 (ai @aJc (ai @aJd (ai @aJe (ai @aJf (ai @aJg (ai @aJh (ai @aJi (ai @vy (ai @aDI (ai @aDJ (ai @oP (ai @oQ (ai @aJj (ai @jJ (ai @dB (ai @dD (ai @jK (ai @oR (ai @Ö (ai @Ø (ai @Ù (ai @aJk (ai @ž (ai @dE (ai @Fg (ai @OY (ai @j6.{0} (ai @j7.{0} (ai @HR.{0} (ai @aIc.{0} (ai @HK.{0} (ai @Rt.{0} (ai @aGD.{0} (ai @GD.{0} (ai @Im.{0} (ai @Bg.{0} (ai @BH.{0} (ai @CS.{0} (ai @B4.{0} (ai @aWo.{0,0} (ai @List.zip_nil_right.{0,0} (ai @Cb.{0,0} (ai @Option.map_none.{0,0} (ai @B1 (ai @Tl (ai @lH (ai @Tm (ai @dF (ai @lI (ai @dG (ai @Yz (ai @zC (ai @lJ (ai @dH (ai @iK (ai @OD (ai @OE (ai @BV.{1} (ai @DW.{1} (ai @jL (@oT))))))))))))))))))))))))))))))))))))))))))))))))))))))))))))))))))))))))))))))))))))))))))))))))))
def T6:=ai @Jk.{0} (ai @beq_self_eq_true.{0} (ai @U8 (ai @aCJ (ai @m9 (ai @Kd (ai @AD (ai @Ai (ai @Ay (ai @Au (ai @BE (ai @Nat.zero_lt_succ (ai @Cb.{0,0} (@aGE.{0})))))))))))))
def abS:=ai By T6
def aaS:type_of%@AO.{0}:=@AO.{0}
def Kf:=ai @D3 (ai @Ec (ai @Bool.and_true (ai @nA (ai @aCI (ai @iL (ai @Bool.or_true (ai @KL (ai @Np (ai @E0 (ai @EF.{0} (ai @wR.{0} (ai @WW.{0} (ai @aWr.{0} (ai @BV.{1} (ai @DW.{1} (ai @Cy (ai @OD (ai @aId (ai @OE (ai @iT (ai @aGF (@DT))))))))))))))))))))))
abbrev Pt(i o:Nat):Ad:=y9 (zn (i,o))
end Go.Am
end
open Go.Am.Ad renaming beq→y7,nilFunc→x5,int→v1,str→v3
open Go.Am.DH renaming cells→wz
open UInt8 renaming ofNat→yi
attribute[local simp]Go.Am.By Go.Am.abS
noncomputable section
set_option maxRecDepth 100000
section
namespace Go.Am
open Go
section
section
variable{U:Type}{z:Nat}
section
variable{AH:List (List U)}(h:∀r∈AH,r.length=z)
def GX:zz AH.flatten=zz AH*z:=by
 induction AH with
 |nil=>simp
 |cons q AH a=>rw[Dk,As,h q AF,a λr b=>h r (by simp[b]),Bg,Ch];omega
def lK:∀{k:Nat},AH.flatten.take (k*z)=(AH.take k).flatten:=by
 induction AH with
 |nil=>intro k;simp
 |cons q AH a=>
  intro k;have c:=h q AF;cases k with
  |zero=>simp
  |succ k=>rw[Dk,Ch,GO,RH,tw,AL Ab,c,WX,a λr b=>h r (by simp[b])];simp
def Km:∀{k:Nat},AH.flatten.drop (k*z)=(AH.drop k).flatten:=by
 induction AH with
 |nil=>intro k;simp
 |cons q AH a=>
  intro k;have c:=h q AF;cases k with
  |zero=>simp
  |succ k=>rw[Dk,Ch,GO,RH,WT,AU Ab,c,WX,a λr b=>h r (by simp[b])];simp
def zE{k:Nat}(a:k<zz AH)(q:List U):AH.flatten.take (k*z)++q++AH.flatten.drop (k*z+z)=(AH.set k q).flatten:=by
 have e:k*z+z=(k+1)*z:=by grind
 rw[e,lK h,Km h,B0,Ae a];simp
end
section
variable{AH:List (List Ad)}(h:∀r∈AH,r.length=z)
def lL:∀{n off:Nat},off+n<=zz AH->CP AH.flatten z (off*z) n=(AH.drop off).take n:=by
 intro n;induction n with
 |zero=>intro off _;simp[CP]
 |succ n b=>
  intro off hl;rw[CP];have e:off*z+z=(off+1)*z:=by rw[Ch,GO]
  rw[e,b Ab,Km h];have a:off<zz AH:=Ab;rw[AI a,Dk,Dh (h _ (AV a)▸Af _),AL (h _ (AV a)▸Af _),Im]
def aAb:CP AH.flatten z 0 (zz AH)=AH:=by have:=lL h (n:=zz AH) (off:=0) Ab;grind
end
end
section
variable{h:Ak}{id z n:Nat}{AH:List (List Ad)}
def Kn(a:∀r∈AH,zz r=z)(c:h[id]?=zn (z0 AH.flatten)):LH h (.CK id 0 (zz AH) z)=zn (h.set id .CV,.sl z AH):=by simp only[LH,c,B1];rw[Ae (GX a▸Af _),aAb a]
def FN{k:IntKind}{i:Nat}(hi:i<n):AB (.EM z) [.CK id 0 n z,zs k (i:Int)]=zn (y9 (zn (id,i*z))):=by
 have:N6 (i:Int) n=zn i:=by rw[N6];rw[Ae Ab];rfl
 simp[AB,elemOf,this]
section
variable(hr:∀r∈AH,r.length=z)
def YA(e:h[id]?=zn (z0 AH.flatten)){i:Nat}(d:i<zz AH){q:List Ad}(hq:zz q=z):Cv h z (y9 (zn (id,i*z))) (z3 q)=zn (h.set id (z0 (AH.set i q).flatten)):=by
 rw[Cv,e,Tl];have:i*z+z<=zz AH.flatten:=by rw[GX hr];have:=Er z (Ab:i+1<=zz AH);grind
 rw[<-zE hr d];grind
end
def zF(hr:∀r∈AH,zz r=z){i:Nat}{q:List Ad}(hq:zz q=z):∀r∈AH.set i q,zz r=z:=by grind
def LU{U:Type}{f:U->List Ad}(hf:∀a,(f a).length=z)(l:List U):∀r∈l.map f,zz r=z:=by simp_all
section
variable{s v:Ad}{b:Nat}(hs:s= .slnil\/s= .sl z [])
def Nd(c:AY z AH v)(a:AH≠[])(e:zz AH*b<=AN):KF h z b s v=zn (h++[z0 AH.flatten],.CK (zz h) 0 (zz AH) z):=by
 obtain rfl|⟨rfl,c⟩:=c
 .cases AH with
  |nil=>cases a rfl
  |cons r AH=>rw[Bg] at e;obtain rfl|rfl:=hs<;>simp[KF,Qq,e]
 .cases a c
def Sq(a:AY z [] v):KF h z b s v=zn (h,s):=by obtain rfl|⟨rfl,a⟩:=a<;>obtain rfl|rfl:=hs<;>simp[KF,Qq]
end
def lz{v:Ad}{b:Nat}(a:AY z [] v):Gq h z b (.CK id 0 n z) v=zn (h,.CK id 0 n z):=by obtain rfl|⟨rfl,a⟩:=a<;>simp[Gq,Hy]
def JZ{v:Ad}{b:Nat}{r2:List (List Ad)}(e:∀r∈AH,zz r=z)(hz:0<z)(f:h[id]?=zn (z0 AH.flatten))(d:AY z r2 v)(c:r2≠[])(hb:(zz AH+zz r2)*b<=AN):
  Gq h z b (.CK id 0 (zz AH) z) v=zn (h.set id .CV++[.cells (AH++r2).flatten],.CK (zz h) 0 (zz AH+zz r2) z):=by
 obtain rfl|⟨rfl,d⟩:=d
 .cases r2 with
  |nil=>cases c rfl
  |cons r r2=>
   have hl:=GX e;have h1:¬(0+(zz AH+(r::r2).length)*z<=zz AH.flatten):=by simp_all
   rw[Gq];simp[Hy,BV,f];grind
 .cases c d
end
end
section
section
end
def GY:List Aj:=[[100,100],[100,116],[108,105],a3J,a3a,[112],[114,98],[114,112],[114,116],a4a]
def Ly:List Aj:=[a3s,a3y,a3T,[116,100],a3R,[116,104],a3U,[116,114]]
def ME:List Aj:=[[109,105],[109,110],[109,111],[109,115],[109,116,101,120,116]]
def Tn:List Aj:=[a4W,a3F,a2S]
section
end
def B2:List Aj:=[[104,49],[104,50],[104,51],[104,52],[104,53],[104,54]]
def Dw(k:Int)(s:Aj):Bool:=
 if k=3 then decide (s=a29\/s∈ME) else if k=2 then decide (s∈Tn) else if k=1 then decide (s∈PT) else zt
def sw(s:Aj)(t e:IT):List Aj->IT
 |[]=>e
 |c::a=> .op (zj .eql) [zk s,zk c] λv=> .Hs v t (sw s t e a)
def aAc{C:Hw}{Q:HN}{h:Ak}{s:Aj}{t e:IT}:∀{a:List Aj},W C (sw s t e a) Q h↔(s∈a->W C t Q h)/\(s∉a->W C e Q h)
 |[]=>by simp[sw]
 |c::a=>by simp[sw,cT,vy,PR,PS,cU,A0,MO];rw[aAc];grind
def Mh{C:Hw}{f:FuncId}{a:List Ad}{r:Ad}:JY C f a r↔W C (Cf C f a) (λx b _=>x= z7/\b=[r]) []:=by unfold JY Ev;grind
end
section
def T7{a:Aj}:DS a []=[a]:=by rfl
def Sr{a r:Aj}{c:UInt8}:DS a (c::r)=if c=32 then a::DS [] r else DS (a++[c]) r:=by rw[DS]
def Hj(l s:Aj):Bool:=decide (s≠[]/\(32:UInt8)∉s/\s∈DS [] l)
def dI{s:Aj}{a n:Nat}(ha:a<=n)(b:n<zz s):(s.take (n+1)).drop a=(s.take n).drop a++[s[n]]:=by rw[AG b,Qm ES]
end
section
def EJ{l:Aj}{a:List Aj}{s:Aj}(h1:DS [] l=a)(h2:a.all (λw=> !w.isEmpty&& !w.contains 32)=zb):Hj l s=decide (s∈a):=by rw[Hj];grind
section
variable{Q:HN}{h:Ak}{k:Ad->IT}{s:Aj}
def l_:Hj a2u s=decide (s∈PT):=EJ Bi Bi
def oU:Hj a3M s=decide (s∈ME):=EJ Bi Bi
def zG:Hj a3g s=decide (s∈Tn):=EJ Bi Bi
def ma:Hj a2Q s=decide (s∈GY):=EJ Bi Bi
def zH:Hj a2X s=decide (s∈Ly):=EJ Bi Bi
def Ko:List Aj:=DS [] a2v
def Jr:List Aj:=DS [] a2t
def QH:List Aj:=[a2y,a2K,a2z]
def Ú:Hj a3D s=decide (s∈QH):=EJ Bi Bi
def Oi:List Aj:=[a3J,a3a]
def mb:Hj a2Y s=decide (s∈Oi):=EJ Bi Bi
def UF:List Aj:=[[111,108],[117,108]]
def aAd:Hj a4Z s=decide (s∈UF):=EJ Bi Bi
def QI:List Aj:=[a4q,a3s,a2y,a4k,a4v,a2K,[116,100],a2z,[116,104]]
def Û:Hj a2O s=decide (s∈QI):=EJ Bi Bi
end
end
section
def Kp(c:UInt8):UInt8:=if 65<=c.toNat/\c.toNat<=90 then c+32 else c
def Eb(s:Aj):Aj:=s.map Kp
def VK{c:UInt8}(h:65<=c.toNat/\c.toNat<=90):((Kp c).toNat:Int)=(c.toNat:Int)+32:=by rw[Kp];rw[Ae h,UInt8.toNat_add];grind
def QJ{c:UInt8}(h:¬(65<=c.toNat/\c.toNat<=90)):Kp c=c:=by rw[Kp];rw[Aa h]
def UG{s:Aj}{n:Nat}(a:n<zz s):Eb (s.take (n+1))=Eb (s.take n)++[Kp s[n]]:=by rw[AG a];rw[Eb];rw[BJ];rfl
def Rl(b:UInt8):Ad:= zs x0 (b.toNat:Int)
def I4(s:Aj)(n:Nat):Aj:=Eb (s.take n)++s.drop n
def dJ(s:Aj)(n:Nat):(I4 s n).length=zz s:=by simp[I4,Eb];omega
section
variable{s:Aj}{n:Nat}(hn:n<s.length)
def dM:(I4 s n)[n]?=zn s[n]:=by unfold I4 Eb;grind
end
def VL{s:Aj}{n:Nat}(a:n<zz s):I4 s (n+1)=(I4 s n).set n (Kp s[n]):=by
 unfold I4;rw[UG a,BO _ _ (by simp[Eb];omega)];have e:n-(Eb (s.take n)).length=0:=by simp[Eb];omega
 rw[e,AI a,NC,AO];rfl
def zJ(s:Aj):I4 s (zz s)=Eb s:=by simp[I4,Eb]
def VM{U:Type}{l:List U}{i:Nat}{v:U}(h:l[i]?=zn v):l.set i v=l:=by apply Uj;grind
def mc{a:List Ad}{i:Nat}{v:Ad}(h:a[i]?=zn v):A8 [z0 a] yz (y9 (zn (0,i)))=zn v:=by simpa[A8] using h
def jN{U:Type}{l:List U}{i:Nat}{v:U}(h:i<zz l):l.take i++v::l.drop (i+1)=l.set i v:=by rw[B0,Ae h]
def zK{a:List Ad}{i:Nat}{v:Ad}(h:i<zz a)(b:v.cells=[v]):Cv [z0 a] 1 (y9 (zn (0,i))) v=zn [z0 (a.set i v)]:=by simp only[Cv,b,HR,A5];rw[Ae ⟨trivial,Ab⟩,<-jN h];simp
def Ss(s:Aj):∀(n o:Nat),o+n=zz s->CP (s.map Rl) 1 o n=Cs (s.drop o)
 |0,o,h=>by rw[AU Ab];rfl
 |n+1,o,h=>by
  have e:(s.map Rl).drop o=Rl s[o]::(s.map Rl).drop (o+1):=by rw[AI (zv (Ab:o<zz s))];simp
  rw[CP,Ss s n (o+1) Ab,AI (Ab:o<zz s),e];rfl
end
section
def CD(a:Aj):List Aj->Aj
 |[]=>a
 |w::ws=>if Eb w=a then w else CD a ws
def BY(w:Aj):List Ad:=[zk w]
def PU:Aj:=a2v
def To:Aj:=a2t
def dN:DS [] PU=Ko:=Bi
def dO:DS [] To=Jr:=Bi
end
section
structure Bb where
 Bk:Int
 name:Aj
 value:Aj
 deriving DecidableEq
def Bb.row(a:Bb):List Ad:=[zs yv a.Bk,zk a.name,zk a.value]
structure Item where
 node:Int
 Bk:Int
 name:Aj
 OZ:Bool
 deriving DecidableEq
def Item.row(a:Item):List Ad:=[zs yv a.node,zs yv a.Bk,zk a.name,zg a.OZ]
def HU(a:List Aj)(v:Ad):Prop:=AY 1 (a.map BY) v
def AK(l:List Bb)(v:Ad):Prop:=AY 3 (l.map Bb.row) v
def B7(l:List Item)(v:Ad):Prop:=AY 4 (l.map Item.row) v
def v_(l:List Bb):Prop:=zz l<=12/\∀x∈l,zz x.name<=60/\zz x.value<=200
instance(l:List Bb):Decidable (v_ l):=by rw[v_];infer_instance
def aAe(l:List Aj):Prop:=zz l<=12/\∀x∈l,zz x<=60
instance(l:List Aj):Decidable (aAe l):=by rw[aAe];infer_instance
def wc(l:List Item):Prop:=zz l<=60/\∀x∈l,zz x.name<=60
instance(l:List Item):Decidable (wc l):=by rw[wc];infer_instance
end
section
def Ck{U:Type}(p:U->Bool)(n:Nat):List U->Int
 |[]=> -1
 |a::l=>if p a then(n:Int) else Ck p (n+1) l
def Ig{U:Type}{p:U->Bool}:∀{l:List U} {k:Nat},(Ck p k l= -1/\l.find? p=yz)\/∃(n:Nat) (a:U),Ck p k l=((k+n:Nat):Int)/\l[n]?=zn a/\l.find? p=zn a
 |[],k=> yq ⟨rfl,rfl⟩
 |a::l,k=>by
  rw[Ck];by_cases h:p a=zb;.grind
  .rw[Aa h];rcases Ig (p:=p) (l:=l) (k:=k+1) with⟨e,d⟩|⟨n,b,e,d,c⟩
   .grind
   .exact yk ⟨n+1,b,by rw[e];congr 1;omega,zv d,by simp[h,c]⟩
def Su(a:Bb):Bool:=decide (a.Bk=0/\a.name=a4r)
def Sv{s:Aj}(h:s.all (λc=> !(65<=c.toNat&&c.toNat<=90))=zb):Eb s=s:=by
 conv=>rhs;rw[<-List.map_id s]
 apply j3;intro c hc;refine QJ λh2=>?_;grind
abbrev aNf:Aj:=a29
abbrev we:Aj:=a4m
abbrev oV:Aj:=a3u
def FO(n:Int)(s:Aj)(l:List Bb):Bool:=
 if n=2 then Dw 2 s else if n≠3 then zt else if s≠aNf then zt else match l.find? Su with
  |yz=>zt
  |zn a=>decide (Eb a.value=we\/Eb a.value=oV)
end
section
section
variable{U:Type}{f:U->List Ad}{l c:List U}{v d:Ad}{z b:Nat}{k k2:IntKind}
section
variable(hv:AY z (l.map f) v)
def AY.CQ:AB (vl zt) [v]=zn (zs yv (zz l:Int)):=by have:=AY.len hv;rwa [Ao] at this
def AY.BL{n:Nat}(a:n<zz l):AB (.EM z) [v,zs k (n:Int)]=zn (.CO (f l[n])):=have:=AY.EM hv (k:=k) (zv a);zv this
end
def AY.Ms(b:AY z (l.map f) v){n:Nat}(c:n<=zz l):∃u,AB (.LK z zt zt zb) [v,zs k (n:Int)]=zn u/\AY z ((l.take n).map f) u:=by
 obtain rfl|⟨rfl,h⟩:=b
 .have a:Fv (n:Int) (l.map f).length=zn n:=by rw[Fv];rw[Ao,Ae Ab];rfl
  refine⟨.sl z ((l.map f).take n),?_,yq (by rw[E1])⟩;simp only[AB,Kg,En,a,Cb,iK,BV,HK]
 .have:l=[]:=zv h
  subst this;have:n=0:=zv c
  subst this;exact⟨zc,rfl,yk ⟨rfl,rfl⟩⟩
def AY.VN(b:AY z (l.map f) v){n:Nat}(c:n<=zz l):∃u,AB (.LK z zt zb zt) [v,zs k (n:Int)]=zn u/\AY z ((l.drop n).map f) u:=by
 obtain rfl|⟨rfl,h⟩:=b
 .have a:Fv (n:Int) (l.map f).length=zn n:=by rw[Fv];rw[Ao,Ae Ab];rfl
  refine⟨.sl z ((l.map f).drop n),?_,yq (by rw[JA])⟩;simp only[AB,Kg,En,a,Cb,iK,BV,Bx]
 .have:l=[]:=zv h
  subst this;have:n=0:=zv c
  subst this;exact⟨zc,rfl,yk ⟨rfl,rfl⟩⟩
def AY.oW(h:AY z (l.map f) v)(j:AY z (c.map f) d)(i:(zz l+zz c)*b<=AN):∃u,AB (wx z b) [v,d]=zn u/\AY z ((l++c).map f) u:=by obtain⟨u,e,hu⟩:=AY.If h j (zv i);grind
def AY.Gf(h:AY z (c.map f) d)(a:zz c*b<=AN):∃u,AB (wx z b) [zc,d]=zn u/\AY z (c.map f) u:=by obtain⟨u,e,hu⟩:=AY.If .nil h (zv a);grind
def AY.KT{a:U}(c:AY z (l.map f) v)(d:(zz l+1)*b<=AN):AB (wx z b) [v,.sl z [f a]]=zn (.sl z ((l++[a]).map f)):=by rw[AY.zD c (zv d)];simp
end
def VO{a b:Int}(e: -9223372036854775808<=a-b)(d:a-b<9223372036854775808):AB (zr .sub) [zs yv a,zs yv b]=zn (zs yv (a-b)):=by rw[ly,wrap_i64 e d]
def Db(a b:Int)(e: -9223372036854775808<=a-b:=by omega)(d:a-b<9223372036854775808:=by omega):AB (zr .sub) [zs yv a,zs yv b]=zn (zs yv (a-b)):=VO e d
def QK{a b:Int}(e: -9223372036854775808<=a+b)(d:a+b<9223372036854775808):AB (zr .add) [zs yv a,zs yv b]=zn (zs yv (a+b)):=by rw[oO,wrap_i64 e d]
def Item.zero:Item:=⟨0,0,[],zt⟩
section
variable{a:Item}
def Item.C5:zz a.row=4:=rfl
def Item.g0{d:Ad}:a.row.getD 0 d= zs yv a.node:=rfl
def Item.g1{d:Ad}:a.row.getD 1 d= zs yv a.Bk:=rfl
def Item.g2{d:Ad}:a.row.getD 2 d= zk a.name:=rfl
def Item.g3{d:Ad}:a.row.getD 3 d= zg a.OZ:=rfl
def Item.at0:a.row[0]?=zn (zs yv a.node):=rfl
def Item.Jh:a.row.take 4=a.row:=rfl
def Item.wg:a.row.drop 1=[zs yv a.Bk,zk a.name,zg a.OZ]:=rfl
def Item.aNg:a.row.drop 2=[zk a.name,zg a.OZ]:=rfl
def Item.aNh:a.row.drop 3=[zg a.OZ]:=rfl
def Item.Sw:[v1 yv a.node,zs yv a.Bk,zk a.name,zg a.OZ]=a.row:=rfl
def Item.fill:AP [zs yv 0,zs yv 0,zk [],zg zt] ([(0,1),(1,1),(2,1),(3,1)].zip a.row)=zn a.row:=rfl
end
def Fh:=ai @Item.fill (ai @Item.C5 (ai @Item.g0 (ai @Item.g1 (ai @Item.g2 (ai @Item.g3 (ai @Item.at0 (ai @Item.Jh (ai @Item.wg (ai @Item.aNg (ai @Item.aNh (ai @Item.Sw (ai @Cr (@Br.{0})))))))))))))
def Dl(l:List Item)(i:Int):Item:=if 0<=i then l.getD i.toNat Item.zero else Item.zero
def DZ(l:List Item):Item:=Dl l ((zz l:Int)-1)
section
variable{U:Type}
def A7(q:U->Bool)(l:List U):Int:=match l.reverse.findIdx? q with
 |zn k=>(zz l:Int)-1 -k
 |yz=> -1
def LA{q:U->Bool}:A7 q []= -1:=rfl
def Kq{q:U->Bool}{l:List U}{a:U}:A7 q (l++[a])=if q a then(zz l:Int) else A7 q l:=by unfold A7;grind
def Ih{q:U->Bool}{l:List U}{n:Nat}(a:n<zz l):A7 q (l.take (n+1))=if q l[n] then(n:Int) else A7 q (l.take n):=by rw[AG a,Kq,Az,CE (RJ a)]
def DJ{q:U->Bool}{l:List U}:(A7 q l= -1/\∀a∈l,q a=zt)\/∃(n:Nat) (j:n<zz l),A7 q l=(n:Int)/\q l[n]=zb/\∀m (i:m<zz l),n<m->q l[m]=zt:=by
 have k:∀r:List U,(A7 q r.reverse= -1/\∀a∈r.reverse,q a=zt)\/∃(n:Nat) (j:n<zz r.reverse),A7 q r.reverse=(n:Int)/\q r.reverse[n]=zb/\∀m (i:m<zz r.reverse),n<m->q r.reverse[m]=zt:=by
  intro r;induction r with
  |nil=>exact yq ⟨rfl,AF⟩
  |cons a r t=>
   rw[Fw,Kq];by_cases h:q a=zb;.refine yk ⟨zz r.reverse,AF,Ae h,by simp[h],λm i d=>?_⟩;simp at i d;omega
   .rw[Aa h];rcases t with⟨p,o⟩|⟨n,j,p,o,c⟩
    .exact yq ⟨p,λb f=>by
      obtain f|f:=AA.1 f
      .exact o b f
      .simp at f;subst f;exact zv h⟩
    .refine yk ⟨n,by simp at j⊢;omega,p,JB j▸o,λm i d=>?_⟩;by_cases s:m<zz r.reverse;.rw[JB s];exact c m s d
     .have:m=zz r.reverse:=by simp at i s⊢;omega
      subst this;exact zv h
 have:=k l.reverse;rwa [Jl] at this
end
def At(h:Ak)(b o:Nat)(v:Ad):Prop:=∃a,h[b]?=zn (z0 a)/\a[o]?=zn v
def put(h:Ak)(a o:Nat)(u:Ad):Ak:=match h[a]? with
 |zn (z0 c)=>h.set a (z0 (c.set o u))
 |_=>h
section
variable{h t:Ak}{id o:Nat}{u v w:Ad}
def IL{cs:List Ad}(c:h[id]?=zn (z0 cs)):put h id o u=h.set id (z0 (cs.set o u)):=by rw[put];rw[c]
def Kr:(put h id o u).length=zz h:=by rw[put];split<;>simp
section
variable(ha:At h id o v)
def At.lt:id<zz h:=let⟨cs,a,_⟩:=ha;(Aq.1 a).1
def At.load:A8 h yz (y9 (zn (id,o)))=zn v:=by let⟨cs,a,e⟩:=ha;simp[A8,a,Fg,e]
def At.store(f:u.cells=[u]):Cv h 1 (y9 (zn (id,o))) u=zn (put h id o u):=by
 let⟨b,c,e⟩:=ha;simp[IL c,Cv,c,f,A5,OE];have a:b.set o u=b.take o++[u]++b.drop (o+1):=by rw[B0,Ae ((Aq.1 e).1)];simp
 grind
def At.put:At (put h id o u) id o u:=let⟨c,a,e⟩:=ha;IL a▸⟨c.set o u,by simp[(Aq.1 a).1],by simp[(Aq.1 e).1]⟩
def At.same:Am.put h id o v=h:=by let⟨cs,b,e⟩:=ha;let⟨hl,e⟩:=Aq.1 e;let⟨hi,a⟩:=Aq.1 b;rw[IL b,<-e,IW,<-a,IW]
end
def oX:Am.put (Am.put h id o u) id o w=Am.put h id o w:=by
 cases b:h[id]? with
 |none=>
  have e:∀u,Am.put h id o u=h:=λu=>by rw[Am.put];rw[b]
  rw[e,e]
 |some x=>cases x with
  |cells c=>have d:=(Aq.1 b).1;rw[IL b,IL b,IL (cs:=c.set o u) (by simp[d])];simp
  |_=>
   have e:∀u,Am.put h id o u=h:=λu=>by rw[Am.put];rw[b]
   rw[e,e]
def At.If(c:At h id o v):At (h++t) id o v:=let⟨d,a,e⟩:=c;⟨d,An (Aq.1 a).1▸a,e⟩
def oY(a:At h id o v):Am.put (h++t) id o u=Am.put h id o u++t:=by let⟨cs,c,e⟩:=a;rw[IL c,IL (An a.lt▸c),aRb _ _ a.lt]
def Cq{i:Nat}(hn:i≠id):(Am.put h id o u)[i]?=h[i]?:=by
 rw[Am.put];split;.grind
 .rfl
end
def Ü(h:Ak)(p:Ad)(l:List Item):Prop:=(p= y9 yz/\l=[])\/∃a o v,p= y9 (zn (a,o))/\At h a o v/\B7 l v
def Gg{l:List Item}{n:Nat}(a:n<zz l):Dl l (n:Int)=l[n]:=by have:(0:Int)<=(n:Int):=Ab;simp[Dl,this,a]
def MF{l:List Item}{i:Int}(h:i<0\/(zz l:Int)<=i):Dl l i=Item.zero:=by rw[Dl];grind
section
variable{h:Ak}{p:Ad}{l:List Item}
def aDK{s:Aj}{b:List Aj}:decide (0<=Ck (λw=>decide (s=w)) 0 b)=decide (s∈b):=by
 rcases Ig (p:=λw=>decide (s=w)) (l:=b) (k:=0) with⟨e,d⟩|⟨n,a,e,d,c⟩
 .grind
 .grind
def AS(b:List Aj)(a:Item):Bool:=decide (a.Bk=1/\a.name∈b)
def Cc{ws:List Aj}:HU ws (.sl 1 (ws.map BY)):= .mk
def GZ(n:Int)(a:Item):Bool:=
 if n=4 then AS QH a else if n=5 then !AS Oi a else if a.Bk=3\/a.Bk=2 then Dw a.Bk a.name
 else AS QI a||(decide (n=2)&&AS UF a)||(decide (n=3)&&AS [a2G] a)
def DK{ws:List Aj}{args:List Ad}(e:args=ws.map v3)(h:zz ws<=16777216):AB (.Df 1) args=zn (.sl 1 (ws.map BY)):=by
 subst e;have c:(ws.map v3).map (·.cells)=ws.map BY:=by simp[BY]
 rw[vz,(AF:(ws.map v3).all (λa=>zz a.cells==1)=zb),c];simp[h]
def me:AB (.Df 1) [S a2y,S a2K,S a2z]=zn (.sl 1 (QH.map BY)):=DK rfl AR
def zL:AB (.Df 1) [S a3J,S a3a]=zn (.sl 1 (Oi.map BY)):=DK rfl AR
def Ý:AB (.Df 1) [S [111,108],S [117,108]]=zn (.sl 1 (UF.map BY)):=DK rfl AR
def mf:AB (.Df 1) [S a4q,S a3s,S a2y,S a4k,S a4v,S a2K,S [116,100],S a2z,S [116,104]]=zn (.sl 1 (QI.map BY)):=DK rfl AR
def Þ:AB (.Df 1) [S a2G]=zn (.sl 1 ([a2G].map BY)):=DK rfl AR
def HG{U:Type}(q e:U->Bool):List U->Bool
 |[]=>zt
 |a::r=>if q a then zb else if e a then zt else HG q e r
def mg{U:Type}{q e:U->Bool}(l:List U)(b:Bool):(if h:0<=A7 (λa=>q a||e a) l/\(A7 (λa=>q a||e a) l).toNat<zz l then q (l[(A7 (λa=>q a||e a) l).toNat]'h.2) else zt)=HG q e l.reverse:=by
 have c:∀r:List U,(if h:0<=A7 (λa=>q a||e a) r.reverse/\(A7 (λa=>q a||e a) r.reverse).toNat<zz r.reverse then q (r.reverse[(A7 (λa=>q a||e a) r.reverse).toNat]'h.2) else zt)=HG q e r:=by
  intro r;induction r with
  |nil=>simp[HG,LA]
  |cons a r ih=>rw[Fw,HG];have e0:=Kq (q:=λa=>q a||e a) (l:=r.reverse) (a:=a);grind
 have:=c l.reverse;rwa [Jl] at this
def HU.cells{v:Ad}{a:List Aj}(b:HU a v):v.cells=[v]:=AY.cells b
def Bz(b:Int)(a:Item):Bool:=decide (a.node=b)
end
end
section
section
variable{h:Ak}{p v:Ad}{l:List Item}
def lM{n s:Int}{t:Aj}{b:Bool}:AB (.Fc [I 0,I 0,S [],ff] [(0,1),(1,1),(2,1),(3,1)]) [zs yv n,zs yv s,zk t,zg b]=zn (z3 (Item.row ⟨n,s,t,b⟩)):=by rfl
def Oj{a:Item}:AB (.Df 4) [z3 a.row]=zn (.sl 4 [a.row]):=Oh rfl AR
def NP(h:Ak)(a o:Nat)(l:List Item):Prop:=∃v,At h a o v/\B7 l v
def NP.at{a o:Nat}(b:NP h a o l):Ü h (y9 (zn (a,o))) l:=let⟨v,d,c⟩:=b; yk ⟨a,o,v,rfl,d,c⟩
def B7.cells(a:B7 l v):v.cells=[v]:=AY.cells a
def Dc(a:Item):Bool:=Dw a.Bk a.name
def Ef(a:Int)(l:List Item):Int:=if A7 (Bz a) l<0 then -1 else match(l.drop ((A7 (Bz a) l).toNat+1)).findIdx? Dc with
 |zn k=>A7 (Bz a) l+1+k
 |yz=> -1
def FQ{U:Type}(q:U->Bool)(l:List U)(n:Nat):Int:=match(l.drop n).findIdx? q with
 |zn k=>(n:Int)+k
 |yz=> -1
section
variable{U:Type}{q:U->Bool}{l:List U}{n:Nat}
def T8(h:zz l<=n):FQ q l n= -1:=by rw[FQ];rw[AU h];rfl
def VP(h:n<zz l):FQ q l n=if q l[n] then(n:Int) else FQ q l (n+1):=by unfold FQ;rw[AI h,List.findIdx?_cons];grind
end
def J0{a:Int}:Ef a l=if A7 (Bz a) l<0 then -1 else FQ Dc l ((A7 (Bz a) l).toNat+1):=by unfold Ef FQ;grind
def dQ{U:Type}(q e:U->Bool):List U->Bool
 |[]=>zt
 |a::r=>(q a&& !(r.any e))||dQ q e r
section
variable{U:Type}{q e:U->Bool}
def YB{a:U}:∀{r:List U},HG q e (r++[a])=((q a&& !(r.any e))||HG q e r)
 |[]=>by by_cases h:q a=zb<;>simp[HG,h]
 |b::r=>by simp[CS,HG,YB];grind
def zM:∀{l:List U},dQ q e l=HG q e l.reverse
 |[]=>rfl
 |a::l=>by rw[Fw,YB,dQ,zM];simp
def aJm(l:List U):(if A7 q l<0 then zt else !((l.drop ((A7 q l).toNat+1)).any e))=HG q e l.reverse:=by
 have key:∀r:List U,(if A7 q r.reverse<0 then zt else !((r.reverse.drop ((A7 q r.reverse).toNat+1)).any e))=HG q e r:=by
  intro r;induction r with
  |nil=>rfl
  |cons a r f=>
   rw[Fw,HG,Kq];by_cases b:q a=zb;.simp only[b,BV];rw[Aa Ab,A6,AU AF];rfl
   .simp only[b,DW,Cy,<-f];rcases DJ (q:=q) (l:=r.reverse) with⟨d,h⟩|⟨n,hn,d,h,c⟩
    .simp[d]
    .grind
 grind
end
end
end
section
def Ev.ret{C:Hw}{f:FuncId}{a:List Ad}{h:Ak}{R:Ad->Ak->Prop}(i:Ev C f a h R):∃r b,BF C f a h r b/\R r b:=let⟨n,x,c,b,e,d,r,j,k⟩:=i;⟨r,b,Ac.2 ⟨n,x,c,b,e,d,j,rfl⟩,k⟩
def NG(b a:Item->Bool):List Item->List Item
 |x::y::r=>if b x then x::y::r else if a x then y::r else NG b a (y::r)
 |r=>r
def Dg(b a:Item->Bool)(l:List Item):List Item:=(NG b a l.reverse).reverse
section
variable{b a:Item->Bool}{l:List Item}
def ß(h:zz l<=1):NG b a l=l:=by
 match l with
 |[]=>rfl
 |[x]=>rfl
 |x::y::r=>simp at h
def dR(h:zz l<=1):Dg b a l=l:=by rw[Dg];rw[ß (zv h),Jl]
def lN{x:Item}(h:1<=zz l):Dg b a (l++[x])=if b x then l++[x] else if a x then l else Dg b a l:=by
 unfold Dg;rw[MQ,OH,Lq];cases c:l.reverse with
 |nil=>
  have:l=[]:=zv c
  grind
 |cons y r=>rw[NG];grind
def lO{n:Nat}(c:n+1<zz l):Dg b a (l.take (n+2))=if b l[n+1] then l.take (n+2) else if a l[n+1] then l.take (n+1) else Dg b a (l.take (n+1)):=by rw[AG c,lN (by rw[Az];omega)]
end
def Tp{b a:Item->Bool}:∀{l:List Item},(Dg b a l).length<=zz l:=by
 have c:∀r:List Item,(NG b a r).length<=zz r:=by
  intro r;induction r with
  |nil=>simp[NG]
  |cons x r ih=>
   cases r with
   |nil=>simp[NG]
   |cons y r=>rw[NG];grind
 intro l;have:=c l.reverse;simpa[Dg] using this
section
variable{h:Ak}{p v:Ad}{l:List Item}
def dS{n:Nat}(hn:n<zz l):DZ (l.take (n+1))=l[n]:=by
 have e:((l.take (n+1)).length:Int)-1=(n:Int):=by grind
 rw[DZ];rw[e,Gg (by rw[Az];omega)];simp
section
variable{id o:Nat}(hs:NP h id o l)
def NP.oZ:∃u,h=put h id o u/\B7 l u:=let⟨u,b,a⟩:=hs;⟨u,b.same.symm,a⟩
def NP.lt:∃v,At h id o v:=let⟨u,a,_⟩:=hs;⟨u,a⟩
end
def NP.aJn{a o:Nat}{u:Ad}(b:∃v,At h a o v)(c:B7 l u):NP (put h a o u) a o l:=let⟨_,d⟩:=b;⟨u,d.put,c⟩
def Cl(_:Item):Bool:=zt
def CN(s:Aj)(a:Item):Bool:=decide (a.Bk≠1\/a.name∉GY\/a.name=s)
def CY(a:Item):Bool:=decide (a.Bk≠1\/¬(a.name∈Ly\/a.name∈GY))
def Ii(a:Int)(l:List Item):List Item:=if A7 (Bz a) l<0 then l else Dg Cl (Bz a) l
def Lc(l:List Item)(i:Int):List Item:=l.take (max 1 i.toNat)
def Ld{q:Item->Bool}(l:List Item):Dg Cl q l=Lc l (A7 q l):=by
 have c:∀r:List Item,Dg Cl q r.reverse=Lc r.reverse (A7 q r.reverse):=by
  intro r;induction r with
  |nil=>rfl
  |cons x r f=>
   rw[Fw,Kq];obtain d|d:=S3 (zz r)
   .have:r=[]:=NJ.1 d;subst this;by_cases b:q x=zb<;>simp[b,Lc,Dg,NG,LA]
   .have h:1<=zz r.reverse:=by rw[JO];omega
    rw[lN h];by_cases b:q x=zb;.rw[Aa (by simp[Cl]),Ae b,Ae b];rw[Lc];grind
    .rw[Aa (by simp[Cl]),Aa b,Aa b,f];unfold Lc;rw[Dh];rcases DJ with⟨a,_⟩|⟨n,hn,a,_⟩<;>rw[a]<;>omega
 have:=c l.reverse;grind
def YC{a:Int}(l:List Item):Ii a l=if A7 (Bz a) l<0 then l else Lc l (A7 (Bz a) l):=by rw[Ii];rw[Ld]
end
end
section
section
variable{h:Ak}{p v:Ad}{l:List Item}
def aAf(l:List Item):∀r∈l.map Item.row,zz r=4:=LU (λa=>Item.C5) l
def T9{n:Nat}(h:n<=2000000000):n*40<=AN:=by have:AN=140737488355328:=rfl;omega
def Bl{U:Type}(l:List U)(k:Nat):List U:=l.take k++l.drop (k+1)
def Cn(a:Int)(l:List Item):List Item:=if A7 (Bz a) l<1 then l else Bl l (A7 (Bz a) l).toNat
def ET(i:Int)(n:Nat):Nat:=min (max i 1).toNat n
def Sx(b:Int)(a:Item)(l:List Item):List Item:=if A7 (Bz b) l<1 then l else l.set (A7 (Bz b) l).toNat a
def o7(h:Ak)(l:List Item)(r:Ad)(a:Ak):Prop:=(l=[]/\r= zc/\a=h)\/(l≠[]/\r= .CK (zz h) 0 (zz l) 4/\a=h++[z0 (l.map Item.row).flatten])
def aDL(c:B7 l v)(hb:zz l<=1000000000):∃r d,KF h 4 40 zc v=zn (d,r)/\o7 h l r d:=by
 by_cases b:l=[];.subst b;exact⟨_,_,Sq (yq rfl) c,yq ⟨rfl,rfl,rfl⟩⟩
 .have a:=Nd (h:=h) (yq rfl) c (zv b) (by rw[Ao];exact T9 Ab);rw[Ao] at a;exact⟨_,_,a,yk ⟨b,rfl,rfl⟩⟩
def o7.RL{r:Ad}{b:Ak}(c:o7 h l r b):∃u t,LH b r=zn (h++t,u)/\B7 l u:=by
 rcases c with⟨rfl,rfl,rfl⟩|⟨hne,rfl,rfl⟩
 .exact⟨zc,[],by rw[Br];rfl,.nil⟩
 .have a:(h++[wz (l.map Item.row).flatten])[zz h]?=zn (z0 (l.map Item.row).flatten):=by simp
  have f1:=Kn (aAf l) a;refine⟨.sl 4 (l.map Item.row),[.CV],?_,.mk⟩;grind
end
end
section
end
section
section
variable{h:Ak}{p v w:Ad}{l:List Item}{ws:List Aj}
def aAg:Lc l (-1)=Lc l 1:=rfl
def Fm(s:Aj)(b:Bool)(a:Item):Bool:=if b then CY a else CN s a
end
end
section
def fT:List (Aj×Int×Aj):=[(a3L,4,a4G),(a3G,4,a4D),(a33,4,a44),(a34,4,a45),(a35,4,a47),(a3V,4,a2S),(a36,4,a3Y),(a4b,5,[108,97,110,103]),(a3Z,5,a43),(a30,6,a30),(a3z,6,a4n)]
def dU(x:Aj×Int×Aj):Ad×Ad:=(zk x.1,z3 [zs yv x.2.1,zk x.2.2,zk []])
def ft(n:Nat):List (Ad×Ad):=(fT.take n).map dU
def aNi:Px a3L (z3 [zs yv 4,zk a4G,zk []]) (ft 0)=zn (ft 1):=by kernel_rfl
def aNj:Px a3G (z3 [zs yv 4,zk a4D,zk []]) (ft 1)=zn (ft 2):=by kernel_rfl
def aNk:Px a33 (z3 [zs yv 4,zk a44,zk []]) (ft 2)=zn (ft 3):=by kernel_rfl
def aNl:Px a34 (z3 [zs yv 4,zk a45,zk []]) (ft 3)=zn (ft 4):=by kernel_rfl
def aNm:Px a35 (z3 [zs yv 4,zk a47,zk []]) (ft 4)=zn (ft 5):=by kernel_rfl
def aNn:Px a3V (z3 [zs yv 4,zk a2S,zk []]) (ft 5)=zn (ft 6):=by kernel_rfl
def aNo:Px a36 (z3 [zs yv 4,zk a3Y,zk []]) (ft 6)=zn (ft 7):=by kernel_rfl
def aNp:Px a4b (z3 [zs yv 5,zk [108,97,110,103],zk []]) (ft 7)=zn (ft 8):=by kernel_rfl
def aNq:Px a3Z (z3 [zs yv 5,zk a43,zk []]) (ft 8)=zn (ft 9):=by kernel_rfl
def aNr:Px a30 (z3 [zs yv 6,zk a30,zk []]) (ft 9)=zn (ft 10):=by kernel_rfl
def aJo:Px a3z (z3 [zs yv 6,zk a4n,zk []]) (ft 10)=zn (ft 11):=by kernel_rfl
def mh{h:Ak}{a:List (Ad×Ad)}{s:Aj}{v:Ad}:TU (h++[vw a]) (vx (zn (zz h))) (zk s) v=(Px s v a).map λa=>h++[vw a]:=by simp[TU]
def EK(n:Aj):Option (Int×Aj):=(fT.find? λx=>decide (n=x.1)).map (·.2)
def dW(n:Aj):∀l:List (Aj×Int×Aj),Vj n (l.map dU)=zn ((l.find? λx=>decide (n=x.1)).map λx=>(dU x).2)
 |[]=>rfl
 |x::l=>by
  rw[Bn,Ed,dU,Vj];by_cases e:n=x.1;.rw[Ae e,Ah e];rfl
  .rw[Aa e,Ag e];exact dW n l
def Ok{h:Ak}{n:Aj}:Rc (h++[vw (ft 11)]) (z3 [zs yv 0,zk [],zk []]) zb (vx (zn (zz h))) (zk n)=
  zn (match EK n with|zn (s,m)=> yt [z3 [zs yv s,zk m,zk []],zg zb]|yz=> yt [z3 [zs yv 0,zk [],zk []],zg zt]):=by
 have e:Xd (h++[vw (ft 11)]) (vx (zn (zz h))) (zk n)=Vj n (fT.map dU):=by simp[Xd,ft,fT]
 rw[Rc,e,dW,EK];cases fT.find? λx=>decide (n=x.1)<;>rfl
abbrev aJp:Aj:=a38
abbrev Zd:Aj:=a4d
def LV(sp:Int)(n:Aj):Aj:=if sp=2 then CD n Jr else if sp=3/\n=aJp then Zd else n
def Dd(sp:Int)(a:Bb):Bb:=
 if sp=2\/sp=3 then match EK (LV sp a.name) with
  |zn (s,m)=>⟨s,m,a.value⟩
  |yz=>⟨0,LV sp a.name,a.value⟩
 else⟨0,a.name,a.value⟩
def VQ(s:Aj):(Eb s).length=zz s:=by simp[Eb]
def Nw(n:Aj):∀a,CD n a=n\/(CD n a∈a/\Eb (CD n a)=n)
 |[]=> yq rfl
 |w::a=>by
  rw[CD];split;.grind
  .rcases Nw n a with h|⟨h1,h2⟩
   .exact yq h
   .grind
def VR(n:Aj)(a:List Aj):(CD n a).length=zz n:=by
 obtain h|⟨_,h⟩:=Nw n a
 .rw[h]
 .rw[<-VQ,h]
def EV{a b c:Ad}:AB (.Df 3) [z3 [a,b,c]]=zn (.sl 3 [[a,b,c]]):=rfl
def Bb.C5{a:Bb}:zz a.row=3:=rfl
def Bb.Jh{a:Bb}:a.row.take 3=a.row:=rfl
section
variable{v:Ad}{l:List Bb}{h:Ak}
def zO{a b:Bb}{c:Bool}:AB (vn c [.i,.s,.s]) [z3 a.row,z3 b.row]=zn (zg (decide (a=b) != c)):=by
 rw[UD];have:EI [.i,.s,.s] a.row b.row=zn (decide (a=b)):=by simp[EI,Ns,Bb.row,BV,BN];cases a;cases b;grind
 grind
def NQ:List Aj:=[a3L,a3G,a33,a34,a35,a3V,a36]
def aDM{s:Aj}:Hj a2H s=decide (s∈NQ):=EJ Bi Bi
def Xw{k:IntKind}{s:Aj}{a z:Nat}(ha:a<=zz s):AB (.LK z zb zb zt) [zk s,zs k (a:Int)]=zn (zk (s.drop a)):=by
 have c:Fv (a:Int) (zz s)=zn a:=by rw[Fv];rw[Ae Ab];rfl
 simp[AB,Kg,En,c]
abbrev zP:Aj:=a4b
abbrev dX:Aj:=a3Z
abbrev zQ:Aj:=a30
abbrev dY:Aj:=a3z
def jO:∀s∈NQ,6<=zz s/\EK s=zn (4,s.drop 6):=AR
def o8{s:Aj}(b:s∉NQ)(d:s≠zP)(g:s≠dX)(c:s≠zQ)(a:s≠dY):EK s=yz:=by simp[NQ,A0,DF,K0,MO] at b;let⟨i,h,a3,a4,f,a6,e⟩:=b;simp[EK,fT,Ed,List.find?_nil,Ag i,Ag h,Ag a3,Ag a4,Ag f,Ag a6,Ag e,Ag d,Ag g,Ag c,Ag a,Option.map_none]
abbrev mi:Aj:=a4n
def Ua(s:Aj):(s∈NQ/\6<=zz s/\EK s=zn (4,s.drop 6))\/(s∉NQ/\((s=zP/\4<=zz s/\EK s=zn (5,s.drop 4))\/(¬s=zP/\((s=dX/\4<=zz s/\EK s=zn (5,s.drop 4))\/(¬s=dX/\((s=zQ/\EK s=zn (6,s))\/(¬s=zQ/\((s=dY/\EK s=zn (6,mi))\/(¬s=dY/\EK s=yz))))))))):=by
 by_cases a:s∈NQ;.exact yq ⟨a,jO s a⟩
 refine yk ⟨a,?_⟩;by_cases j:s=zP;.subst j;decide
 refine yk ⟨j,?_⟩;by_cases i:s=dX;.subst i;decide
 refine yk ⟨i,?_⟩;by_cases g:s=zQ;.subst g;decide
 refine yk ⟨g,?_⟩;by_cases c:s=dY;.subst c;decide
 exact yk ⟨c,o8 a j i g c⟩
def sl6{s:Aj}(h:6<=zz s):AB (.LK 0 zb zb zt) [zk s,zs yv 6]=zn (zk (s.drop 6)):=Xw h
def sl4{s:Aj}(h:4<=zz s):AB (.LK 0 zb zb zt) [zk s,zs yv 4]=zn (zk (s.drop 4)):=Xw h
end
end
section
structure B9 where
 node:Int
 name:Aj
 Al:List Bb
deriving DecidableEq
structure CC where
 c:B9
 v:Ad
 ok:AK c.Al v
def CC.row(e:CC):List Ad:=[zs yv e.c.node,zk e.c.name,e.v]
def DB(l:List CC)(v:Ad):Prop:=AY 3 (l.map CC.row) v
section
variable{e:CC}{d:Ad}
def CC.C5:zz e.row=3:=rfl
def CC.g0:e.row.getD 0 d= zs yv e.c.node:=rfl
def CC.g1:e.row.getD 1 d= zk e.c.name:=rfl
def CC.g2:e.row.getD 2 d=e.v:=rfl
def CC.at0:e.row[0]?=zn (zs yv e.c.node):=rfl
def CC.Jh:e.row.take 3=e.row:=rfl
def CC.wg:e.row.drop 1=[zk e.c.name,e.v]:=rfl
def CC.Sw:[v1 yv e.c.node,zk e.c.name,e.v]=e.row:=rfl
def CC.aDN:AB (vl zt) [e.v]=zn (zs yv (zz e.c.Al:Int)):=AY.CQ e.ok
end
def Bb.g0{a:Bb}{d:Ad}:a.row.getD 0 d= zs yv a.Bk:=rfl
def Bb.g1{a:Bb}{d:Ad}:a.row.getD 1 d= zk a.name:=rfl
def Bb.g2{a:Bb}{d:Ad}:a.row.getD 2 d= zk a.value:=rfl
def Bb.Sw{a:Bb}:[v1 yv a.Bk,zk a.name,zk a.value]=a.row:=rfl
def Sy{n:Nat}(h:n<=2000000000):n*48<=AN:=by have:AN=140737488355328:=rfl;omega
def Xx(e:CC):Bool:=decide (e.c.node=0)
def UH(n:Int)(e:CC):Bool:=decide (e.c.node=n)
def since(l:List CC):Int:=A7 Xx l+1
def à:since []=0:=rfl
def mj{l:List CC}{e:CC}:since (l++[e])=if e.c.node=0 then(zz l:Int)+1 else since l:=by unfold since;rw[Kq];by_cases h:e.c.node=0<;>simp[Xx,h]
def dZ{l:List CC}{n:Nat}(a:n<zz l):since (l.take (n+1))=if l[n].c.node=0 then(n:Int)+1 else since (l.take n):=by rw[AG a,mj,Az,CE (RJ a)]
def Lf(l:List CC):∃s:Nat,since l=(s:Int)/\s<=zz l/\(∀m (b:m<zz l),s<=m->l[m].c.node≠0)/\(∀t,s=t+1->∃f:t<zz l,l[t].c.node=0):=by
 rcases DJ with⟨e,d⟩|⟨n,h,e,d,a⟩
 .refine⟨0,by rw[since];rw[e];rfl,AZ _,λm b _=>?_,λt f=>by omega⟩;have:=d _ (AV b);simpa[Xx] using this
 .refine⟨n+1,by rw[since];rw[e];rfl,h,λm b E7=>?_,λt f=>?_⟩;.have:=a m b Ab;simpa[Xx] using this
  .obtain rfl:t=n:=by omega
   exact⟨h,by simpa[Xx] using d⟩
section
variable{h:Ak}{v:Ad}{l:List CC}{id:Nat}
def wh(a:Aj):List CC->Int
 |[]=> -1
 |e::t=>if e.c.node=0 then -1 else if e.c.name=a then(zz t:Int) else wh a t
def PV(a:Aj)(l:List CC):Int:=wh a l.reverse
def UI{name:Aj}{n:Nat}(a:n<zz l):PV name (l.take (n+1))=if l[n].c.node=0 then -1 else if l[n].c.name=name then(n:Int) else PV name (l.take n):=by rw[AG a,PV,MQ,OH,Lq,wh,JO,Az,CE (RJ a),PV]
def á{a:Aj}:PV a []= -1:=rfl
def zR{b:Aj}{s:Nat}(hs:since l=(s:Int)):PV b (l.take s)= -1:=by
 let⟨c,e,h1,h2,a⟩:=Lf l;obtain rfl:s=c:=Ab;cases s with
 |zero=>rfl
 |succ t=>let⟨d,f⟩:=a t rfl;rw[UI d,Ae f]
def IM(a:Int)(l:List CC):Int:=if a=0 then -1 else A7 (UH a) l
end
section
variable{h:Ak}{v:Ad}{l:List Bb}
def HV(a b:B9):Bool:=decide (a.name=b.name/\zz a.Al=zz b.Al/\(∀x∈a.Al,x∈b.Al)/\∀x∈b.Al,x∈a.Al)
def iQ(e:CC):Prop:=zz e.c.Al<=1000000000
end
end
section
mutual
def Ad.VS:∀a:Ad,y7 a a=zb
 | zg a=>by simp[y7]
 | zs k a=>by simp[y7]
 | zk a=>by simp[y7]
 | y9 a=>by simp[y7]
 | .CO a=>by rw[y7,Ad.MG a]
 | .sl n a=>by simp[y7,Ad.eB a]
 | .FT _=>by simp[y7]
 | zc=>by rw[y7]
 | .CK a c d e=>by simp[y7]
 | vx a=>by simp[y7]
 | zx f a c=>by simp[y7,Ad.MG a,Ad.MG c]
 | x5=>by rw[y7]
 | .iface t a=>by simp[y7,Ad.VS a]
 | .nilIface=>by rw[y7]
 | z3 a=>by rw[y7,Ad.MG a]
 | yt a=>by rw[y7,Ad.MG a]
def Ad.MG:∀a:List Ad,Ad.Vh a a=zb
 |[]=>by rw[Ad.Vh]
 |a::x=>by simp[Ad.Vh,Ad.VS a,Ad.MG x]
def Ad.eB:∀a:List (List Ad),Ad.Vi a a=zb
 |[]=>by rw[Ad.Vi]
 |a::x=>by simp[Ad.Vi,Ad.MG a,Ad.eB x]
end
def Xy(h:Ak)(a o:Nat)(l:List CC):Prop:=∃u,At h a o u/\DB l u
def DB.cells{l:List CC}{v:Ad}(a:DB l v):v.cells=[v]:=AY.cells a
def Xy.lt{h:Ak}{a o:Nat}{l:List CC}(b:Xy h a o l):∃v,At h a o v:=let⟨u,c,_⟩:=b;⟨u,c⟩
def QL(l:List CC):∀r∈l.map CC.row,zz r=3:=LU (λa=>CC.C5) l
section
variable{h:Ak}{v:Ad}{l:List CC}{id:Nat}
def N1{r:List Ad}(h:zz r=3):AB (.Df 3) [z3 r]=zn (.sl 3 [r]):=Oh h AR
def zS(n:Int)(l:List CC):IM n l= -1\/∃k:Nat,k<zz l/\IM n l=(k:Int):=by
 rw[IM];split;.exact yq rfl
 .rcases DJ with⟨a,_⟩|⟨k,b,a,_⟩
  .exact yq a
  .exact yk ⟨k,b,a⟩
def o9:CC:=⟨⟨0,[],[]⟩,zc,.nil⟩
def aAh:[I 0,S [],Ad.slnil]=o9.row:=rfl
def CX(i:Int)(n:Nat):Nat:=min (max i 0).toNat n
def Ga(l:List CC):Nat:=(since l-1).toNat
end
end
section
def aDO(e:B9):List CC->Nat
 |[]=>0
 |x::t=>if x.c.node=0 then 0 else aDO e t+(if HV x.c e=zb then 1 else 0)
def ml(e:B9):List CC->Int
 |[]=> -1
 |x::t=>if x.c.node=0 then -1 else if 0<=ml e t then ml e t else if HV x.c e=zb then(zz t:Int) else -1
def VT(e:B9)(l:List CC):Nat:=aDO e l.reverse
def PX(e:B9)(l:List CC):Int:=ml e l.reverse
section
variable{e:B9}{l:List CC}{n s:Nat}
def Xz(a:n<zz l):VT e (l.take (n+1))=if l[n].c.node=0 then 0 else VT e (l.take n)+(if HV l[n].c e=zb then 1 else 0):=by rw[AG a,VT,MQ,OH,Lq,aDO,VT]
def XA(a:n<zz l):PX e (l.take (n+1))=if l[n].c.node=0 then -1 else if 0<=PX e (l.take n) then PX e (l.take n) else if HV l[n].c e=zb then(n:Int) else -1:=by rw[AG a,PX,MQ,OH,Lq,ml,PX,JO,Az,CE (RJ a)]
def eC(hs:since l=(s:Int)):VT e (l.take s)=0/\PX e (l.take s)= -1:=by
 let⟨d,e,h1,h2,a⟩:=Lf l;obtain rfl:s=d:=Ab;cases s with
 |zero=>exact⟨rfl,rfl⟩
 |succ t=>let⟨b,c⟩:=a t rfl;exact⟨by rw[Xz b,Ae c],by rw[XA b,Ae c]⟩
end
def MH(e:B9)(l:List CC):List CC:=if e.node≠0/\3<=VT e l then Bl l (PX e l).toNat else l
end
section
end
end Go.Am
end
section
namespace Go.Am
structure FE where
 kind:Int:=0
 Ha:Int:=0
 Bj:List Int:=[]
 Cd:Int:=0
 Bk:Int:=0
 name:Aj:=[]
 Al:List Bb:=[]
 data:Aj:=[]
 Ho:Aj:=[]
 sys:Aj:=[]
 Cm:Bool:=zt
 cont:Int:=0
 E3:Int:=0
deriving DecidableEq
structure Ar where
 n:List FE
 i:List Int
abbrev AE:Aj:=a2z
def iR(x:FE):Prop:=x.kind=4/\x.Bk=1/\x.name=AE
instance(x:FE):Decidable (iR x):=by rw[iR];infer_instance
namespace Ar
def len(A:Ar):Int:=zz A.n
def has(A:Ar)(h:Int):Prop:=1<=h/\h<=zz A.n
instance(A:Ar)(h:Int):Decidable (A.has h):=by rw[has];infer_instance
section
variable(A:Ar)(h:Int)
def nd:FE:=if A.has h then A.n.getD (h.toNat-1) {} else{}
def inr:Int:=if A.has h then A.i.getD (h.toNat-1) 0 else 0
def set(x:FE):Ar:={n:=if A.has h then A.n.set (h.toNat-1) x else A.n,i:=A.i}
def Ks(x:Int):Ar:={n:=A.n,i:=if A.has h then A.i.set (h.toNat-1) x else A.i}
end
def add(A:Ar)(x:FE):Ar:={n:=A.n++[x],i:=A.i++[0]}
def up(A:Ar)(h:Int):Int:=if(A.nd h).Ha≠0 then(A.nd h).Ha else(A.nd h).E3
end Ar
section
variable{A:Ar}{h k:Int}{x y:FE}
def HO(a:¬A.has h):A.nd h={}:=by rw[Ar.nd];rw[Aa a]
def KU:(A.set h x).n.length=zz A.n:=by rw[Ar.set];split<;>simp
def aDP:(A.set h x).len=A.len:=by unfold Ar.len;rw[KU]
def JE:(A.set h x).has k↔A.has k:=by unfold Ar.has;rw[KU]
def Lg:(A.set h x).nd k=if k=h/\A.has h then x else A.nd k:=by
 unfold Ar.nd;simp[JE];by_cases b:A.has k
 .rw[Ae b,Ae b];rw[Ar.set];by_cases a:A.has h;.rw[Ae a];have c:=a;rw[Ar.has] at c b;grind
  .grind
 .grind
def VU:(A.set h x).inr k=A.inr k:=by rw[Ar.inr];simp[JE];rfl
def QM:(A.add x).len=A.len+1:=by simp[Ar.len,Ar.add]
def Eh:(A.add x).has k↔A.has k\/k=A.len+1:=by simp[Ar.has,Ar.add,Ar.len];omega
def J1:(A.add x).nd k=if k=A.len+1 then x else A.nd k:=by
 unfold Ar.nd;simp[Eh];by_cases e:k=A.len+1;.subst e;simp[Ar.add,Ar.len]
 .by_cases a:A.has k;.rw[Ae (yq a),Aa e,Ae a];rw[Ar.has] at a;simp[Ar.add,A3];grind
  .grind
def ZF(b:zz A.i=zz A.n):(A.add x).inr k=A.inr k:=by
 unfold Ar.inr;simp[Eh];by_cases e:k=A.len+1;.subst e;simp[Ar.add,Ar.len,<-b]
 .by_cases a:A.has k;.rw[Ae (yq a),Ae a];simp[Ar.add,A3];grind
  .grind
def VV:(A.Ks h k).len=A.len:=rfl
def SA{m:Int}:(A.Ks h m).has k↔A.has k:=Iff.rfl
def VW{m:Int}:(A.Ks h m).nd k=A.nd k:=by rfl
def SB{m:Int}(hl:zz A.i=zz A.n):(A.Ks h m).inr k=if k=h/\A.has h then m else A.inr k:=by
 unfold Ar.inr;simp[SA];by_cases b:A.has k
 .rw[Ae b,Ae b];rw[Ar.Ks];by_cases a:A.has h;.rw[Ae a];have c:=a;rw[Ar.has] at c b;grind
  .grind
 .grind
end
def D1(a:Bb):Int×Aj:=(a.Bk,a.name)
def HP(a:List Bb):List Bb->List Bb
 |[]=>a
 |x::l=>if a.any (λy=>decide (D1 x=D1 y)) then HP a l else HP (a++[x]) l
def CL(l:List Bb):List Bb:=HP [] l
def UJ:∀{l a:List Bb},(a.map D1).Nodup->((HP a l).map D1).Nodup
 |[],_,h=>h
 |x::l,a,h=>by
  rw[HP];split;.exact UJ h
  next hn=>refine UJ ?_;grind
def zU:∀{l out:List Bb},((out++l).map D1).Nodup->HP out l=out++l
 |[],out,_=>by simp[HP]
 |x::l,out,h=>by
  rw[HP,Aa,zU (zv h)];.simp
  .grind
def â(l:List Bb):((CL l).map D1).Nodup:=UJ AF
def aDQ{l:List Bb}(h:(l.map D1).Nodup):CL l=l:=by have:=zU (out:=[]) (zv h);simpa[CL] using this
def lP(l:List Bb):CL (CL l)=CL l:=aDQ (â l)
def XB:∀{l b:List Bb} {a:Bb},a∈HP b l->a∈b\/a∈l
 |[],_,_,h=> yq h
 |x::l,b,a,h=>by
  rw[HP] at h;split at h
  .rcases XB h with h|h
   .exact yq h
   .grind
  .rcases XB h with h|h
   .grind
   .grind
def zV{l:List Bb}{a:Bb}(h:a∈CL l):a∈l:=zv (XB h)
def eD:∀{l out:List Bb},(HP out l).length<=zz out+zz l
 |[],out=>by simp[HP]
 |x::l,out=>by
  rw[HP];split;.have:=eD (l:=l) (out:=out);simp;omega
  .have:=eD (l:=l) (out:=out++[x]);simp at this⊢;omega
def Tq{l:List Bb}:(CL l).length<=zz l:=by have:=eD (l:=l) (out:=[]);simpa[CL] using this
structure mn(x:FE):Prop where
 k:1<=x.kind/\x.kind<=6
 Bj:x.Bj≠[]->x.kind=1\/x.kind=2\/x.kind=4
 elem:x.kind≠4->x.Bk=0/\x.Al=[]
 nm:x.kind≠4->x.kind≠3->x.name=[]
 dt:x.kind≠3->x.Ho=[]/\x.sys=[]
 data:x.kind≠5->x.kind≠6->x.data=[]
 Cm:x.kind≠1->x.Cm=zt
 sp:0<=x.Bk/\x.Bk<=7
 asp:∀a∈x.Al,0<=a.Bk/\a.Bk<=7
 CL:CL x.Al=x.Al
 VX:x.cont≠0->iR x
 Rm:x.E3≠0->x.kind=2
 root:x.Ha≠0->x.kind≠1/\x.kind≠2
 wj:x.Bj.Nodup
structure Fj(A:Ar)(e:Int):Prop where
 il:zz A.i=zz A.n
 Vd:∀h,A.has h->mn (A.nd h)
 Cd:∀h,A.has h->A.has (A.nd h).Cd/\(A.nd (A.nd h).Cd).kind=1
 jP:∀h,A.has h->(A.nd h).kind=1->(A.nd h).Cd=h
 Ha:∀h,A.has h->(A.nd h).Ha≠0->A.has (A.nd h).Ha/\h∈(A.nd (A.nd h).Ha).Bj
 OL:∀h,A.has h->∀k∈(A.nd h).Bj,A.has k/\(A.nd k).Ha=h
 Pv:∀h,A.has h->h≠e->iR (A.nd h)->(A.nd h).cont≠0
 cont:∀h,A.has h->(A.nd h).cont≠0->A.has (A.nd h).cont/\(A.nd (A.nd h).cont).kind=2/\(A.nd (A.nd h).cont).E3=h
 E3:∀h,A.has h->(A.nd h).E3≠0->A.has (A.nd h).E3/\(A.nd (A.nd h).E3).cont=h
 ine:∀h,A.has h->A.inr h≠0->A.has (A.inr h)/\(A.nd (A.inr h)).kind=1
 pA:∃r:Int->Nat,∀h,A.has h->A.up h≠0->r (A.up h)<r h
section
variable{A:Ar}{e h k:Int}{x y:FE}
def SC:¬A.has (A.len+1):=by unfold Ar.has Ar.len;omega
def eE(a:¬A.has h):A.up h=0:=by rw[Ar.up];rw[HO a];simp
def mo(ok:Fj A e)(a:A.has h)(b:A.up h≠0):A.has (A.up h):=by
 rw[Ar.up] at b⊢;split;next c=>exact(ok.Ha h a c).1
 next c=>rw[Aa c] at b;exact(ok.E3 h a b).1
def SD(ok:Fj A e)(l:mn x)(hd:(x.kind=1/\x.Cd=A.len+1)\/(x.kind≠1/\A.has x.Cd/\(A.nd x.Cd).kind=1))(j:x.Ha=0)(i:x.Bj=[])(o:x.cont=0)(a:x.E3=0)(b:iR x->e=A.len+1):Fj (A.add x) e:=by
 let⟨r,n⟩:=ok.pA;have f:∀{k},A.has k->k≠A.len+1:=λi e=>(SC (A:=A)) (e▸i);refine⟨by simp[Ar.add,ok.il],?_,?_,?_,?_,?_,?_,?_,?_,?_,r,?_⟩<;>intro m d<;>rw[Eh] at d<;>(try rw[ZF ok.il])<;>simp only[Ar.up,J1,Eh]<;>obtain d|rfl:=d
 all_goals first|(rw[Aa (f d)])|(rw[Ae rfl])|skip
 .exact ok.Vd m d
 .exact l
 .have:=ok.Cd m d;exact Aa (f this.1)▸⟨yq this.1,this.2⟩
 .grind
 .exact ok.jP m d
 .omega
 .intro c;have:=ok.Ha m d c;exact Aa (f this.1)▸⟨yq this.1,this.2⟩
 .intro c;cases c j
 .intro q h;have:=ok.OL m d q h;exact Aa (f this.1)▸⟨yq this.1,this.2⟩
 .intro q h;rw[i] at h;cases h
 .exact ok.Pv m d
 .intro c p;exact absurd (b p).symm c
 .intro c;have:=ok.cont m d c;exact Aa (f this.1)▸⟨yq this.1,this.2⟩
 .intro c;cases c o
 .intro c;have:=ok.E3 m d c;exact Aa (f this.1)▸⟨yq this.1,this.2⟩
 .intro c;cases c a
 .intro c;have:=ok.ine m d c;exact Aa (f this.1)▸⟨yq this.1,this.2⟩
 .intro c;exfalso;apply c;rw[Ar.inr];rw[Aa (SC (A:=A))]
 .have:=n m d;rwa[Ar.up] at this
 .rw[j,a];simp
inductive Reach(A:Ar)(t:Int):Int->Prop
 |refl:Reach A t t
 |step {h:Int}:A.up h≠0->Reach A t (A.up h)->Reach A t h
def KD(l:List Int)(b n:Int):List Int:=if b=0 then l++[n] else l.takeWhile (λk=>decide (k≠b))++n::l.dropWhile (λk=>decide (k≠b))
def Ar.cut(A:Ar)(n:Int):Ar:=
 let q:=(A.nd n).Ha
 if q=0 then A else
  let a:=A.set q {A.nd q with Bj:=(A.nd q).Bj.filter λk=>decide (k≠n)}
  a.set n {a.nd n with Ha:=0}
def Ar.Mf(A:Ar)(p n b:Int):Ar:=
 let a:=A.set p {A.nd p with Bj:=KD (A.nd p).Bj b n}
 a.set n {a.nd n with Ha:=p}
def Mt(k:Int):Prop:=k=1\/k=2\/k=4
instance(k:Int):Decidable (Mt k):=by rw[Mt];infer_instance
structure aAj(A:Ar)(p n b:Int):Prop where
 hp:A.has p
 hn:A.has n
 hb:b≠0->A.has b/\b≠n/\(A.nd b).Ha=p
 kp:Mt (A.nd p).kind
 kn:(A.nd n).kind≠1/\(A.nd n).kind≠2
 re:¬Reach A n p
open Classical in
def Ar.Gu(A:Ar)(p n b:Int):Ar:=if aAj A p n b then(A.cut n).Mf p n b else A
def XC{l:List Int}{b n k:Int}:k∈KD l b n↔k=n\/k∈l:=by
 rw[KD];split;.simp;exact Or.comm
 .have e:=g_ (p:=λk=>decide (k≠b)) (l:=l);grind
def zW{l:List Int}{b n:Int}(h:l.Nodup)(hn:n∉l):(KD l b n).Nodup:=by
 rw[KD];split;.grind
 .have e:=g_ (p:=λk=>decide (k≠b)) (l:=l);grind
def zX:(A.cut h).n.length=zz A.n:=by rw[Ar.cut];simp only;split<;>simp[KU]
def MY:(A.cut h).has k↔A.has k:=by unfold Ar.has;rw[zX]
def zY{p n b:Int}:(A.Mf p n b).n.length=zz A.n:=by rw[Ar.Mf];simp[KU]
def wk{p n b:Int}:(A.Mf p n b).has k↔A.has k:=by unfold Ar.has;rw[zY]
def aDR:(A.cut h).inr k=A.inr k:=by rw[Ar.cut];simp only;split<;>simp[VU]
def aDS{p n b:Int}:(A.Mf p n b).inr k=A.inr k:=by rw[Ar.Mf];simp[VU]
def aHd(ok:Fj A e)(a:A.has h)(hu:A.up h≠0):A.up h≠h:=by let⟨r,hr⟩:=ok.pA;grind
def mq(ok:Fj A e)(a:A.has h)(b:(A.nd h).Ha≠0):(A.nd h).Ha≠h:=by
 have:A.up h=(A.nd h).Ha:=by rw[Ar.up];rw[Ae b]
 have h2:=aHd ok a (this▸b);omega
def UK(ok:Fj A e)(a:A.has h):(A.cut h).nd k=if k=h then{A.nd h with Ha:=0} else if(A.nd h).Ha≠0/\k=(A.nd h).Ha then{A.nd k with Bj:=(A.nd k).Bj.filter λm=>decide (m≠h)} else A.nd k:=by
 rw[Ar.cut];simp only
 by_cases b:(A.nd h).Ha=0
 .rw[Ae b];by_cases e:k=h;.subst e;rw[Ae rfl];have:A.nd k={A.nd k with Ha:=(A.nd k).Ha}:=rfl;rwa[b] at this
  .grind
 .have hn:=mq ok a b;simp[Aa b,Lg,JE,a,(ok.Ha h a b).1,OD];grind
def zZ{x:FE}(a:mn x){l:List Int}(c:l.Nodup)(b:l≠[]->Mt x.kind):mn {x with Bj:=l}:=
 {k:=a.k,Bj:=b,elem:=a.elem,nm:=a.nm,dt:=a.dt,data:=a.data,Cm:=a.Cm,sp:=a.sp,asp:=a.asp,CL:=a.CL,VX:=a.VX,Rm:=a.Rm,root:=a.root,wj:=c}
def wm{x:FE}(a:mn x){p:Int}(b:p≠0->x.kind≠1/\x.kind≠2):mn {x with Ha:=p}:=
 {k:=a.k,Bj:=a.Bj,elem:=a.elem,nm:=a.nm,dt:=a.dt,data:=a.data,Cm:=a.Cm,sp:=a.sp,asp:=a.asp,CL:=a.CL,VX:=a.VX,Rm:=a.Rm,root:=b,wj:=a.wj}
def aJr(ok:zz A.i=zz A.n):(A.cut h).i.length=(A.cut h).n.length:=by rw[zX];rw[Ar.cut];simp only;split<;>exact ok
def aJs{p n b:Int}(ok:zz A.i=zz A.n):(A.Mf p n b).i.length=(A.Mf p n b).n.length:=by rwa[zY]
def aDT(ok:Fj A e)(a:A.has h)(b:k∈(A.nd h).Bj):k≠h/\(A.nd k).Ha=h/\A.has k:=by have:=ok.OL h a k b;refine⟨?_,this.2,this.1⟩;rintro rfl;have h0:=this.1.1;exact mq ok a (by rw[this.2];omega) this.2
def aAk(ok:Fj A e)(a:A.has h):(A.cut h).up k=if k=h then(A.nd h).E3 else A.up k:=by unfold Ar.up;rw[UK ok a];grind
def XD(ok:Fj A e)(c:A.has h)(x:(A.nd h).kind≠2):Fj (A.cut h) e:=by
 let⟨r,y⟩:=ok.pA;have a:=λm=>UK (k:=m) ok c;have w:∀m,((A.cut h).nd m).kind=(A.nd m).kind:=λm=>by rw[a];grind
 have l:∀m,((A.cut h).nd m).Cd=(A.nd m).Cd:=λm=>by rw[a];grind
 have n:∀m,((A.cut h).nd m).cont=(A.nd m).cont:=λm=>by rw[a];grind
 have z:∀m,((A.cut h).nd m).E3=(A.nd m).E3:=λm=>by rw[a];grind
 have d:(A.nd h).E3=0:=by
  by_cases v:(A.nd h).E3=0;.exact v
  .cases x ((ok.Vd h c).Rm v)
 refine⟨aJr ok.il,?_,?_,?_,?_,?_,?_,?_,?_,?_,r,?_⟩<;>intro m p<;>rw[MY] at p<;>(try simp[w,l,n,z,MY,aDR])
 .rw[a];split;.exact wm (ok.Vd h c) AF
  .split;.exact zZ (ok.Vd m p) ((ok.Vd m p).wj.filter _) λt=>(ok.Vd m p).Bj (by intro s;rw[s] at t;simp at t)
   .exact ok.Vd m p
 .exact ok.Cd m p
 .exact ok.jP m p
 .intro t;have b:m≠h:=by rintro rfl;rw[a] at t;simp at t
  have j:((A.cut h).nd m).Ha=(A.nd m).Ha:=by rw[a,Aa b];split<;>rfl
  rw[j] at t⊢;have s:=ok.Ha m p t;refine⟨s.1,?_⟩;rw[a];split;next i=>exact i▸s.2
  .split;.simp only[GN,Cj];exact⟨s.2,b⟩
   .exact s.2
 .intro q u;have t:q∈(A.nd m).Bj/\(m=(A.nd h).Ha->q≠h):=by
   rw[a] at u;split at u;next b=>subst b;have:=aDT ok p u;exact⟨u,λ_=>this.1⟩
   .split at u;.simp only[GN,Cj] at u;exact⟨u.1,λ_=>u.2⟩
    next g=>refine⟨u,λf o=>g ⟨?_,f⟩⟩;rw[<-f];have:=p.1;omega
  have s:=ok.OL m p q t.1;refine⟨s.1,?_⟩;have b:q≠h:=by rintro rfl;exact t.2 s.2.symm rfl
  rw[a,Aa b,<-s.2];split<;>rfl
 .intro t s;refine ok.Pv m p t ?_;rw[a] at s;rw[iR] at s⊢;grind
 .exact ok.cont m p
 .exact ok.E3 m p
 .exact ok.ine m p
 .rw[aAk ok c];split;.rw[d];simp
  .exact y m p
section
variable{p n b:Int}(hp:A.has p)(hn:A.has n)(hne:n≠p)
def aAl:(A.Mf p n b).nd k=if k=n then{A.nd n with Ha:=p} else if k=p then{A.nd p with Bj:=KD (A.nd p).Bj b n} else A.nd k:=by rw[Ar.Mf];simp[Lg,JE,hp,hn,OD];grind
def ã(h0:(A.nd n).Ha=0)(a:(A.nd n).E3=0)(hr:¬Reach A n p):∀{m},¬Reach A n m->(A.Mf p n b).up m=A.up m:=by
 intro m c;have e:m≠n:=by rintro rfl;exact c .refl
 unfold Ar.up;rw[aAl hp hn hne,Aa e];grind
end
section
variable(ok:Fj A e)
open Classical in
def aJt{p n b:Int}(hp:A.has p)(hn:A.has n)(kp:Mt (A.nd p).kind)(kn:(A.nd n).kind≠1/\(A.nd n).kind≠2)(re:¬Reach A n p)(h0:(A.nd n).Ha=0):Fj (A.Mf p n b) e:=by
 let⟨r,hr⟩:=ok.pA;have hne:n≠p:=by rintro rfl;exact re .refl
 have a:=λm=>aAl (k:=m) (b:=b) hp hn hne;have kd:∀m,((A.Mf p n b).nd m).kind=(A.nd m).kind:=λm=>by rw[a];grind
 have l:∀m,((A.Mf p n b).nd m).Cd=(A.nd m).Cd:=λm=>by rw[a];grind
 have o:∀m,((A.Mf p n b).nd m).cont=(A.nd m).cont:=λm=>by rw[a];grind
 have ho:∀m,((A.Mf p n b).nd m).E3=(A.nd m).E3:=λm=>by rw[a];grind
 have i:(A.nd n).E3=0:=by
  by_cases h0:(A.nd n).E3=0;.exact h0
  .exact absurd ((ok.Vd n hn).Rm h0) kn.2
 have g:∀m,A.has m->n∉(A.nd m).Bj:=by intro m hm h1;have:=ok.OL m hm n h1;rw[h0] at this;have:=hm.1;omega
 refine⟨aJs ok.il,?_,?_,?_,?_,?_,?_,?_,?_,?_,λm=>if Reach A n m then r m+r p+1 else r m,?_⟩<;>intro m hm<;>rw[wk] at hm<;>(try simp[kd,l,o,ho,wk,aDS])
 .rw[a];split;.exact wm (ok.Vd n hn) λ_=>kn
  .split;.exact zZ (ok.Vd p hp) (zW (ok.Vd p hp).wj (g p hp)) λ_=>kp
   .exact ok.Vd m hm
 .exact ok.Cd m hm
 .exact ok.jP m hm
 .intro h1;by_cases c:m=n
  .subst c;rw[a,Ae rfl];refine⟨hp,?_⟩;simp only
   rw[a,Aa (D8 hne),Ae rfl];exact XC.2 (yq rfl)
  .have f:((A.Mf p n b).nd m).Ha=(A.nd m).Ha:=by rw[a,Aa c];split;rename_i e;rw[e];rfl
   rw[f] at h1⊢;have h2:=ok.Ha m hm h1;refine⟨h2.1,?_⟩;rw[a];split;next j=>exact j▸h2.2
   .split;.rename_i j;exact j▸XC.2 (.inr h2.2)
    .exact h2.2
 .intro q hq;by_cases c:q=n
  .subst c;refine⟨hn,?_⟩;rw[a,Ae rfl];rw[a] at hq;split at hq;.cases (g q hn) hq
   .split at hq;.rename_i e;exact e.symm
    .cases (g m hm) hq
  .have h1:q∈(A.nd m).Bj:=by
    rw[a] at hq;split at hq;next e=>rwa[e]
    .split at hq;.rename_i e;exact e▸(XC.1 hq).resolve_left c
     .exact hq
   have h2:=ok.OL m hm q h1;refine⟨h2.1,?_⟩;rw[a,Aa c,<-h2.2];split;next e=>rw[e]
   .rfl
 .intro h1 h2;refine ok.Pv m hm h1 ?_;rw[a] at h2;rw[iR] at h2⊢;grind
 .exact ok.cont m hm
 .exact ok.E3 m hm
 .exact ok.ine m hm
 .intro hu;by_cases hR:Reach A n m
  .by_cases c:m=n
   .subst c;have f:(A.Mf p m b).up m=p:=by rw[Ar.up];rw[a,Ae rfl];simp only;rw[Ae];have:=hp.1;omega
    rw[f,Aa re,Ae hR];omega
   .have f:(A.Mf p n b).up m=A.up m:=by
     unfold Ar.up;rw[a,Aa c];split;next e=>rw[e]
     .rfl
    rw[f] at hu⊢;have d:Reach A n (A.up m):=by
     cases hR with
     |refl=>cases c rfl
     |step _ hx=>exact hx
    rw[Ae d,Ae hR];have:=hr m hm hu;omega
  .rw[ã (b:=b) hp hn hne h0 i re hR] at hu⊢;rw[Aa (λh=>hR (.step hu h)),Aa hR];exact hr m hm hu
def ä(b:A.has h){m:Int}(hr:¬Reach A h m):¬Reach (A.cut h) h m:=by
 intro Na;have key:∀m,Reach (A.cut h) h m->Reach A h m:=by
  intro m e;induction e with
  |refl=>exact .refl
  |@step q d _ c=>
   by_cases a:q=h;.rw[a];exact .refl
   .rw[aAk ok b,Aa a] at d c;exact .step d c
 grind
def QN{p n b:Int}:Fj (A.Gu p n b) e:=by
 rw[Ar.Gu];split
 .rename_i f;have a:∀m,((A.cut n).nd m).kind=(A.nd m).kind:=λm=>by rw[UK ok f.hn];grind
  refine aJt (XD ok f.hn f.kn.2) (MY.2 f.hp) (MY.2 f.hn) ?_ ?_ (ä ok f.hn f.re) ?_;.rw[a];exact f.kp
  .rw[a];exact f.kn
  .rw[UK ok f.hn,Ae rfl]
 .exact ok
def mr(f:A.has h)(t:mn x)(w:x.kind=(A.nd h).kind)(h2:x.Ha=(A.nd h).Ha)(o:x.Bj=(A.nd h).Bj)(c:A.has x.Cd/\(A.nd x.Cd).kind=1/\(x.kind=1->x.Cd=h))(n:x.cont=(A.nd h).cont)(l:x.E3=(A.nd h).E3)(j:iR x->iR (A.nd h)):Fj (A.set h x) e:=by
 let⟨r,v⟩:=ok.pA;have a:∀m,(A.set h x).nd m=if m=h then x else A.nd m:=λm=>by rw[Lg];simp[f]
 have s:∀m,((A.set h x).nd m).kind=(A.nd m).kind:=λm=>by rw[a];grind
 have d:∀m,((A.set h x).nd m).Ha=(A.nd m).Ha:=λm=>by rw[a];grind
 have q:∀m,((A.set h x).nd m).Bj=(A.nd m).Bj:=λm=>by rw[a];grind
 have g:∀m,((A.set h x).nd m).cont=(A.nd m).cont:=λm=>by rw[a];grind
 have p:∀m,((A.set h x).nd m).E3=(A.nd m).E3:=λm=>by rw[a];grind
 have u:∀m,(A.set h x).up m=A.up m:=λm=>by unfold Ar.up;rw[d,p]
 refine⟨by rw[KU];exact ok.il,?_,?_,?_,?_,?_,?_,?_,?_,?_,r,?_⟩<;>intro m k<;>rw[JE] at k<;>(try simp[s,d,q,g,p,u,JE,VU])
 .rw[a];split;.exact t
  .exact ok.Vd m k
 .rw[a];split;.exact⟨c.1,c.2.1⟩
  .exact ok.Cd m k
 .rw[a];split;.rename_i e;intro b;rw[e,c.2.2 (w▸e▸b)]
  .exact ok.jP m k
 .exact ok.Ha m k
 .exact ok.OL m k
 .intro b i;refine ok.Pv m k b ?_;grind
 .exact ok.cont m k
 .exact ok.E3 m k
 .exact ok.ine m k
 .exact v m k
end
def Ar.Gv(A:Ar)(d:Int):Int:=if A.inr d≠0 then A.inr d else A.len+1
def Ar.DC(A:Ar)(d:Int):Ar:=if A.inr d≠0 then A else((A.add {kind:=1,Cd:=A.len+1}).Ks d (A.len+1)).Ks (A.len+1) (A.len+1)
def aDU:mn {kind:=1,Cd:=k}:=by constructor<;>simp[CL,HP]
def wq(ok:Fj A e)(hk:A.has k/\(A.nd k).kind=1):Fj (A.Ks h k) e:=by
 refine⟨?_,ok.Vd,ok.Cd,ok.jP,ok.Ha,ok.OL,ok.Pv,ok.cont,ok.E3,?_,ok.pA⟩;.simp only[Ar.Ks];split<;>simp[ok.il]
 .intro m c b;rw[SB ok.il] at b⊢;split at b;.rename_i a;rwa[Ae a]
  next a=>exact Aa a▸ok.ine m c b
def aAm(ok:Fj A e)(b:A.has h)(he:e≠A.len+1):Fj (A.DC h) e/\(A.DC h).has (A.Gv h)/\((A.DC h).nd (A.Gv h)).kind=1:=by
 unfold Ar.DC Ar.Gv;split;next d=>exact⟨ok,ok.ine h b d⟩
 .have c:(A.add {kind:=1,Cd:=A.len+1}).has (A.len+1)/\((A.add {kind:=1,Cd:=A.len+1}).nd (A.len+1)).kind=1:=by rw[Eh,J1,Ae rfl];exact⟨yk rfl,rfl⟩
  exact⟨wq (wq (SD ok aDU (yq ⟨rfl,rfl⟩) rfl rfl rfl rfl (by simp[iR])) c) c,c⟩
def eF(a:k≠A.len+1\/A.inr h≠0):(A.DC h).nd k=A.nd k:=by
 rw[Ar.DC];split;.rfl
 next b=>rw[VW,VW,J1,Aa (a.resolve_right b)]
def å:(A.DC h).len=if A.inr h≠0 then A.len else A.len+1:=by
 rw[Ar.DC];split;.rfl
 .rw[VV,VV,QM]
def PY:A.has k->(A.DC h).has k:=by
 rw[Ar.DC];split;.exact id
 .intro a;rw[SA,SA,Eh];exact yq a
def aDV{d:Int}(ok:Fj A e)(w:A.has e)(n:iR (A.nd e))(L:(A.nd e).cont=0)(K:A.has d/\(A.nd d).kind=1):Fj ((A.add {kind:=2,E3:=e,Cd:=d}).set e {A.nd e with cont:=A.len+1}) 0:=by
 let⟨r,G⟩:=ok.pA;have B:∀{k},A.has k->k≠A.len+1:=λC e=>(SC (A:=A)) (e▸C);have F:A.len+1≠0:=by have:=w.1;have:=w.2;rw[Ar.len];omega
 have b:∀m,(((A.add {kind:=2,E3:=e,Cd:=d}).set e {A.nd e with cont:=A.len+1}).nd m)=if m=e then{A.nd e with cont:=A.len+1} else if m=A.len+1 then{kind:=2,E3:=e,Cd:=d} else A.nd m:=λm=>by rw[Lg,J1];simp[w,Eh]
 have C:=n.1;have D:(A.nd e).E3=0:=by
  by_cases D:(A.nd e).E3=0;.exact D
  .have:=(ok.Vd e w).Rm D;omega
 have e0:e≠0:=by have:=w.1;omega
 have i:mn {kind:=2,E3:=e,Cd:=d}:=by constructor<;>simp[CL,HP]
 have c:=ok.Vd e w;have E:∀m,((A.add {kind:=2,E3:=e,Cd:=d}).set e {A.nd e with cont:=A.len+1}).has m↔A.has m\/m=A.len+1:=λm=>by rw[JE,Eh]
 have J:∀m,((A.add {kind:=2,E3:=e,Cd:=d}).set e {A.nd e with cont:=A.len+1}).inr m=A.inr m:=λm=>by rw[VU,ZF ok.il]
 have g:=B w;refine⟨by rw[KU];simp[Ar.add,Ar.set,ok.il],?_,?_,?_,?_,?_,?_,?_,?_,?_,λm=>if m=A.len+1 then r e+1 else r m,?_⟩<;>intro m v<;>rw[E] at v<;>(try simp[E,J])
 .rw[b];split;.exact ({k:=c.k,Bj:=c.Bj,elem:=c.elem,nm:=c.nm,dt:=c.dt,data:=c.data,Cm:=c.Cm,sp:=c.sp,asp:=c.asp,CL:=c.CL,VX:=λ_=>n,Rm:=c.Rm,root:=c.root,wj:=c.wj})
  .split;.exact i
   next h t=>exact ok.Vd m (v.resolve_right t)
 .have u:∀q,A.has q/\(A.nd q).kind=1->(A.has q\/q=A.len+1)/\(((A.add {kind:=2,E3:=e,Cd:=d}).set e {A.nd e with cont:=A.len+1}).nd q).kind=1:=by
   intro q z;refine⟨yq z.1,?_⟩;rw[b,Aa (B z.1)];split;next a=>rw[a] at z;exact z.2
   .exact z.2
  rw[b m];split;.exact u _ (ok.Cd e w)
  .split;.exact u _ K
   next h t=>exact u _ (ok.Cd m (v.resolve_right t))
 .rw[b m];split;.rename_i a;intro h;exact a▸ok.jP e w h
  .split;.intro h;simp at h
   next h t=>exact ok.jP m (v.resolve_right t)
 .have u:∀q,A.has q->(A.nd q).Ha≠0->(A.has (A.nd q).Ha\/(A.nd q).Ha=A.len+1)/\q∈(((A.add {kind:=2,E3:=e,Cd:=d}).set e {A.nd e with cont:=A.len+1}).nd (A.nd q).Ha).Bj:=by
   intro q z H;have h:=ok.Ha q z H;refine⟨yq h.1,?_⟩;rw[b,Aa (B h.1)];split;next a=>rw[a] at h;exact h.2
   .exact h.2
  rw[b m];split;next a=>exact a▸u e w
  .split;.intro h;simp at h
   next h t=>exact u m (v.resolve_right t)
 .have u:∀q,A.has q->∀k∈(A.nd q).Bj,(A.has k\/k=A.len+1)/\(((A.add {kind:=2,E3:=e,Cd:=d}).set e {A.nd e with cont:=A.len+1}).nd k).Ha=q:=by
   intro q z k C;have h:=ok.OL q z k C;refine⟨yq h.1,?_⟩;rw[b,Aa (B h.1)];split;next a=>rw[a] at h;exact h.2
   .exact h.2
  rw[b m];split;next a=>exact a▸u e w
  .split;.intro k C;simp at C
   next h t=>exact u m (v.resolve_right t)
 .intro _;rw[b m];split;.intro _;exact F
  .split;.intro h;simp[iR] at h
   next h t=>exact ok.Pv m (v.resolve_right t) h
 .rw[b m];split
  .rename_i a;intro _;simp only
   rw[b,Aa (D8 g),Ae rfl,a];exact⟨yk trivial,rfl,rfl⟩
  .split;.intro h;simp at h
   .rename_i h t;intro j;have f:=ok.cont m (v.resolve_right t) j;refine⟨yq f.1,?_⟩;rw[b,Aa (B f.1)];split;.rename_i a;rw[a,C] at f;cases AR f.2.1
    .exact f.2
 .rw[b m];split;.intro h;cases h D
  .split;.rename_i a;intro _;simp only;refine⟨yq w,?_⟩;rw[b,Ae rfl,a]
   .rename_i h t;intro j;have f:=ok.E3 m (v.resolve_right t) j;refine⟨yq f.1,?_⟩;rw[b,Aa (B f.1)];split;.rename_i a;rw[a,L] at f;have:=(v.resolve_right t).1;omega
    .exact f.2
 .intro h;obtain v|rfl:=v
  .have t:=ok.ine m v h;refine⟨yq t.1,?_⟩;rw[b,Aa (B t.1)];split;.rename_i a;rw[a] at t;exact t.2
   .exact t.2
  .exfalso;apply h;rw[Ar.inr];rw[Aa (SC (A:=A))]
 .by_cases a:m=A.len+1
  .have l:((A.add {kind:=2,E3:=e,Cd:=d}).set e {A.nd e with cont:=A.len+1}).up m=e:=by
    have o:m≠e:=a▸D8 g
    rw[Ar.up];rw[b m];simp[a,D8 g]
   rw[l,Aa g,Ae a];intro _;omega
  .have v:=v.resolve_right a;have l:((A.add {kind:=2,E3:=e,Cd:=d}).set e {A.nd e with cont:=A.len+1}).up m=A.up m:=by
    unfold Ar.up;rw[b];split;next o=>rw[o]
    .rfl
   rw[l,Aa a];intro h;exact Aa (B (mo ok v h))▸G m v h
def Ar.elem(A:Ar)(d sp:Int)(nm:Aj)(e:List Bb):Ar:=
 let x:FE:={kind:=4,Cd:=d,Bk:=sp,name:=nm,Al:=CL e}
 if iR x then
  let b:=A.add x
  let a:=b.DC d
  (a.add {kind:=2,E3:=A.len+1,Cd:=b.Gv d}).set (A.len+1) {x with cont:=a.len+1}
 else A.add x
def wv{d sp:Int}{nm:Aj}{l:List Bb}(ok:Fj A 0)(j:A.has d/\(A.nd d).kind=1)(q:0<=sp/\sp<=7)(r:∀a∈l,0<=a.Bk/\a.Bk<=7):Fj (A.elem d sp nm l) 0:=by
 have k:mn {kind:=4,Cd:=d,Bk:=sp,name:=nm,Al:=CL l}:=by constructor<;>simp[lP,q];exact λa s=>r a (zV s)
 rw[Ar.elem];simp only
 split
 .rename_i c;let⟨i,t,m⟩:=aAm (SD ({ok with Pv:=λh f _=>ok.Pv h f (by have:=f.1;omega)}) k (yk ⟨AF,j⟩) rfl rfl rfl rfl λ_=>rfl) (Eh.2 (yq j.1)) (by rw[QM];omega);have g:((A.add {kind:=4,Cd:=d,Bk:=sp,name:=nm,Al:=CL l}).DC d).nd (A.len+1)={kind:=4,Cd:=d,Bk:=sp,name:=nm,Al:=CL l}:=by rw[eF (yq (by rw[QM];omega)),J1,Ae rfl]
  have:=aDV i (PY (Eh.2 (yk rfl))) (by rwa[g]) (by rw[g]) ⟨t,m⟩;grind
 next c=>exact SD ok k (yk ⟨AF,j⟩) rfl rfl rfl rfl λh=>absurd h c
end
def aS8(e:B9):Bool:=decide (e.node=0)
def eH(n:Int)(e:B9):Bool:=decide (e.node=n)
def mv(l:List B9):Int:=A7 aS8 l+1
def Eo(n:Int)(l:List B9):Int:=if n=0 then -1 else A7 (eH n) l
def SE(a:Aj):List B9->Int
 |[]=> -1
 |x::t=>if x.node=0 then -1 else if x.name=a then(zz t:Int) else SE a t
def D2(a:Aj)(l:List B9):Int:=SE a l.reverse
def w_(e:B9):List B9->Nat
 |[]=>0
 |x::t=>if x.node=0 then 0 else w_ e t+(if HV x e=zb then 1 else 0)
def aa(e:B9):List B9->Int
 |[]=> -1
 |x::t=>if x.node=0 then -1 else if 0<=aa e t then aa e t else if HV x e=zb then(zz t:Int) else -1
def ae(e:B9)(l:List B9):List B9:=(if e.node≠0/\3<=w_ e l.reverse then Bl l (aa e l.reverse).toNat else l)++[e]
def Et(l:List B9):List B9:=l.take (mv l-1).toNat
structure BS where
 a:Ar
 Cd:Int
 AJ:List Item
 AX:List B9
 mode:Int
 Kt:Int
 tm:List Int
 head:Int
 Fx:Int
 NR:Bool
 ctx:Item
 fs:Bool
 FW:Bool
 af:Aj
 skip:Bool
 sw:Int
 stop:Bool
def W9(s:List Aj)(A:Ar)(h:Int):Prop:=(A.nd h).kind=4/\(A.nd h).Bk=1/\(A.nd h).name∈s
instance(s:List Aj)(A:Ar)(h:Int):Decidable (W9 s A h):=by rw[W9];infer_instance
abbrev Gw:Aj:=a2K
abbrev XE:Aj:=a3T
abbrev XF:Aj:=a3R
abbrev XG:Aj:=a3U
abbrev wTr:Aj:=[116,114]
abbrev wP:Aj:=[112]
def Jz:List Aj:=[Gw,XE,XF,XG,wTr]
namespace BS
def Mi(b:BS):Int×Int:=
 let d:=A7 (AS [AE]) b.AJ
 let c:=A7 (AS [Gw]) b.AJ
 if c<d then((Dl b.AJ d).node,0) else if c<0 then((Dl b.AJ 0).node,0) else
 let t:=(Dl b.AJ c).node
 if(b.a.nd t).Ha≠0 then((b.a.nd t).Ha,t) else((Dl b.AJ (max (c-1) 0)).node,0)
def place(b:BS)(t:Int):Int×Int:=
 if t=0/\b.AJ=[] then(b.Cd,0) else
 let d:=if t=0 then(DZ b.AJ).node else t
 let c:=if b.FW=zb/\W9 Jz b.a d then b.Mi else(d,0)
 if(b.a.nd c.1).cont≠0 then((b.a.nd c.1).cont,0) else c
end BS
open Classical in
def Ar.E8(A:Ar)(h p bf:Int):Ar:=if(A.nd p).kind=1/\(A.nd h).kind=4/\(∃k∈(A.nd p).Bj,(A.nd k).kind=4) then A else A.Gu p h bf
namespace BS
def J2(b:BS)(p:Int):Int:=if(b.a.nd p).cont≠0 then(if(b.a.nd (b.a.nd p).cont).Cd≠0 then(b.a.nd (b.a.nd p).cont).Cd else b.Cd) else if(b.a.nd p).Cd≠0 then(b.a.nd p).Cd else b.Cd
def I5(sp:Int):Prop:=0<=sp/\sp<=7
instance(sp:Int):Decidable (I5 sp):=by rw[I5];infer_instance
def JL(sp:Int)(nm:Aj):Aj:=if sp=2 then CD nm Ko else nm
section
variable(b:BS)(nm:Aj)(at_:List Bb)
def Hv(sp:Int):Item:=if I5 sp then⟨b.a.len+1,sp,JL sp nm,FO sp (JL sp nm) (at_.map (Dd sp))⟩ else Item.zero
def EL(sp p:Int):BS:=if I5 sp then{b with a:=b.a.elem (b.J2 p) sp (JL sp nm) (at_.map (Dd sp))} else b
end
def Lh(b:BS)(sp:Int):Int:=if I5 sp then b.a.len+1 else 0
section
variable(b:BS)(nm:Aj)(at_:List Bb)
def D5(sp:Int):BS:=
 if I5 sp then
  let c:=b.place 0
  let d:=b.EL nm at_ sp c.1
  {d with a:=d.a.E8 (b.a.len+1) c.1 c.2,AJ:=d.AJ++[b.Hv nm at_ sp]}
 else b
def HH:BS:=
 let d:=b.D5 nm at_ 1
 {d with AX:=ae ⟨b.a.len+1,nm,at_⟩ d.AX}
end
end BS
def I6(r:Int):Aj:=
 if 0<=r/\r<128 then[yi r.toNat]
 else if 128<=r/\r<2048 then[yi (192+r.toNat/64),yi (128+r.toNat%64)]
 else if 2048<=r/\r<65536/\¬(55296<=r/\r<57344) then[yi (224+r.toNat/4096),yi (128+r.toNat/64%64),yi (128+r.toNat%64)]
 else if 65536<=r/\r<=1114111 then[yi (240+r.toNat/262144),yi (128+r.toNat/4096%64),yi (128+r.toNat/64%64),yi (128+r.toNat%64)]
 else[239,191,189]
def XH(l:List Int)(a:Int):Option Int:=if a=0 then l.getLast? else(l.takeWhile λk=>decide (k≠a)).getLast?
def Ar.VY(A:Ar)(h:Int)(s:Aj):Ar:=A.set h {A.nd h with data:=s}
def Ar.KV(A:Ar)(h:Int)(l:List Bb):Ar:=A.set h {A.nd h with Al:=CL l}
namespace BS
def KH(A:Ar)(s:Aj)(p c:Int):Ar:=
 if(A.nd p).kind=4\/(A.nd p).kind=2 then
  match XH (A.nd p).Bj c with
  |zn t=>if(A.nd t).kind=5 then A.VY t ((A.nd t).data++s) else(A.add {kind:=5,Cd:=(A.nd p).Cd,data:=s}).E8 (A.len+1) p c
  |yz=>(A.add {kind:=5,Cd:=(A.nd p).Cd,data:=s}).E8 (A.len+1) p c
 else A
def Nf(b:BS)(r:Int):BS:={b with a:=KH b.a (I6 r) (b.place 0).1 (b.place 0).2}
def EU(A:Ar)(s:Aj)(p a:Int):Ar:=
 if Mt (A.nd p).kind then(A.add {kind:=6,Cd:=(A.nd p).Cd,data:=s}).E8 (A.len+1) p a else A
def DL(b:BS)(s:Aj)(p:Int):BS:={b with a:=if p=0 then EU b.a s (b.place 0).1 (b.place 0).2 else EU b.a s p 0}
def DM(b:BS)(nm:Aj)(a:List Bb)(st:Int):BS:=let c:=b.D5 nm a 1;{c with sw:=st,Kt:=c.mode,mode:=8}
def BT(b:BS):BS:=if HG (AS [wP]) (GZ 3) b.AJ.reverse then{b with AJ:=Dg Cl (AS [wP]) (Dg (CN wP) Cl b.AJ)} else b
def settled(b:BS)(e:B9):Bool:=decide (e.node=0\/0<=A7 (Bz e.node) b.AJ)
def IZ:List B9->BS->List B9×BS
 |[],b=>([],b)
 |e::l,b=>let r:=IZ l (b.D5 e.name e.Al 1);({e with node:=b.a.len+1}::r.1,r.2)
def Ng(b:BS):Nat:=(A7 b.settled b.AX+1).toNat
def A4(b:BS):BS:=let r:=IZ (b.AX.drop b.Ng) b;{r.2 with AX:=b.AX.take b.Ng++r.1}
def CZ(b:BS)(nm:Aj):BS:=match b.AJ.reverse.find? λi=>AS [nm] i||Dc i with
 |zn i=>if AS [nm] i then{b with AJ:=Ii i.node (Dg (CN nm) Cl b.AJ)} else b
 |yz=>b
def K5(l:List Item):Int:=match l.reverse.find? λi=>AS [AE] i||AS [Gw] i with
 |zn i=>if AS [AE] i then 16 else 17
 |yz=>16
end BS
abbrev VZ:Aj:=a3s
abbrev Tr:Aj:=a3y
abbrev xa:Aj:=a2B
abbrev Ts:Aj:=a2D
abbrev MZ:Aj:=a25
abbrev wTd:Aj:=[116,100]
abbrev wTh:Aj:=[116,104]
abbrev Ub:Aj:=a2I
abbrev D6:Aj:=a2y
def KW:List (Aj×Int):=[(wTr,14),(XE,13),(XG,13),(XF,13),(VZ,11),(Tr,12),(Gw,9),(xa,7),(Ts,20)]
namespace BS
def Iv(b:BS)(x:Item)(k:Nat):Option Int:=
 if x.Bk=1 then
  match KW.find? λr=>decide (r.1=x.name) with
  |zn r=>zn r.2
  |yz=>
   if x.name=MZ then zn (K5 (b.AJ.take k))
   else if(x.name=wTd\/x.name=wTh)/\0<k then zn 15
   else if x.name=AE then zn (b.tm.getLast?.getD 7)
   else if x.name=Ub/\0<k then zn 4
   else if x.name=D6 then zn (if b.head=0 then 3 else 6)
   else if k=0 then zn 7 else yz
 else if k=0 then zn 7 else yz
def Fo(b:BS)(k:Nat):Item:=if k=0/\b.NR=zb then b.ctx else b.AJ.getD k Item.zero
def Nx(b:BS):Nat->Int
 |0=>7
 |k+1=>match b.Iv (b.Fo k) k with
  |zn m=>m
  |yz=>b.Nx k
def HQ(b:BS):BS:={b with mode:=b.Nx (zz b.AJ)}
def plain(l:List Bb):List Bb:=l.map λa=>⟨0,a.name,a.value⟩
def ER(b:BS)(l:List Bb)(h:Int):BS:=if(b.a.nd h).kind=4 then{b with a:=b.a.KV h ((b.a.nd h).Al++plain l)} else b
def Cu(b:BS):BS:=
 if A7 (AS [AE]) b.AJ<0 then b
 else HQ {b with AJ:=Dg Cl (AS [AE]) (Dg CY Cl b.AJ),AX:=Et b.AX,tm:=b.tm.dropLast}
def Gk(b:BS):BS:=if zz b.AJ<2 then b else{b with AJ:=b.AJ.take (zz b.AJ-1)}
def pC(b:BS):Item:=if zz b.AJ<2 then Item.zero else DZ b.AJ
end BS
def B9.zero:B9:=⟨0,[],[]⟩
namespace BS
def Gl(blk anc:Int)(far i:Nat)(b:BS)(l:Int)(m:Nat):BS×Int×Nat:=
 let x:=b.AJ.getD i Item.zero
 let e:=Eo x.node b.AX
 if e<0 then({b with AJ:=Bl b.AJ i},l,m)
 else if i+3<far then({b with AX:=Bl b.AX e.toNat,AJ:=Bl b.AJ i},l,if e.toNat<m then m-1 else m)
 else
  let en:=b.AX.getD e.toNat B9.zero
  let n:=b.Hv en.name en.Al 1
  let c:=b.EL en.name en.Al 1 anc
  ({c with a:=c.a.Gu n.node l 0,AJ:=c.AJ.set i n,AX:=c.AX.set e.toNat {en with node:=n.node}},n.node,if l=blk then e.toNat+1 else m)
def Mj(b d:Int)(a k:Nat):Nat->BS×Int×Nat->BS×Int×Nat
 |0,s=>s
 |c+1,s=>Mj b d a k c (Gl b d a (k+(c+1)) s.1 s.2.1 s.2.2)
def C0(A:Ar)(n:Int)(l:List Int):Ar:=l.foldl (λA x=>A.Gu n x 0) A
def HW(d:B9)(c j:Int)(s:BS×Int×Nat):BS:=
 let i:=s.1
 let l:=i.place j
 let p:={i with a:=i.a.E8 s.2.1 l.1 l.2}
 let n:=p.Hv d.name d.Al 1
 let e:=p.EL d.name d.Al 1 c
 let b:=Eo d.node e.AX
 let m:=if b.toNat<s.2.2 then s.2.2 -1 else s.2.2
 let h:=Bl e.AX b.toNat
 let f:=Cn d.node e.AJ
 let o:=ET (A7 (Bz c) f+1) (zz f)
 {e with a:=(C0 e.a n.node (e.a.nd c).Bj).Gu c n.node 0,AX:=h.take (CX m (zz h))++{d with node:=n.node}::h.drop (CX m (zz h)),AJ:=f.take o++n::f.drop o}
def round(b:BS)(nm:Aj):Bool×BS:=
 let f:=D2 nm b.AX
 if f<0 then(zt,b.CZ nm) else
 let d:=b.AX.getD f.toNat B9.zero
 let k:=A7 (Bz d.node) b.AJ
 if k<0 then(zt,{b with AX:=Bl b.AX f.toNat}) else
 if k=0\/HG (Bz d.node) (GZ 1) b.AJ.reverse=zt then(zt,b) else
 let a:=Ef d.node b.AJ
 if a<0 then(zt,{b with AJ:=Ii d.node b.AJ,AX:=Bl b.AX f.toNat}) else
 let c:=(b.AJ.getD a.toNat Item.zero).node
 let e:=(b.AJ.getD (k.toNat-1) Item.zero).node
 (zb,HW d c e (Mj c e a.toNat k.toNat (a.toNat-1 -k.toNat) (b,c,f.toNat)))
def EB:Nat->BS->Aj->BS
 |0,b,_=>b
 |n+1,b,nm=>let r:=b.round nm;if r.1 then EB n r.2 nm else r.2
def CJ(b:BS)(nm:Aj):BS:=
 if AS [nm] (DZ b.AJ)/\Eo (DZ b.AJ).node b.AX<0 then b.Gk else EB 8 b nm
end BS
end Go.Am
end
set_option maxRecDepth 100000
open List renaming Sublist→yx
open Go.Am.Item renaming zero→z9,node→y6
open Go.Am.B9 renaming zero→yj,node→y8
open Go.Am.BS renaming EL→x9,JL→vt,D5→vo,C0→vi,Gl→θ,IZ→vc,KH→vb,I5→v8,Mj→v9
open Go.Am.Ar renaming len→wu,add→wb,cut→w4,elem→w9,DC→vj,E8→v4,Gu→v5
attribute[local simp]Go.Am.Ac Go.Am.By Go.Am.abS
section
namespace Go.Am
structure Le(A A':Ar):Prop where
 has:∀h,A.has h->A'.has h
 kind:∀h,A.has h->(A'.nd h).kind=(A.nd h).kind
 Bk:∀h,A.has h->(A'.nd h).Bk=(A.nd h).Bk
 name:∀h,A.has h->(A'.nd h).name=(A.nd h).name
section
variable{A A' i:Ar}{h k e p n b:Int}{x:FE}
def Le.refl:Le A A:=⟨λ_ h=>h,λ_ _=>rfl,λ_ _=>rfl,λ_ _=>rfl⟩
def Le.trans(b:Le A A')(c:Le A' i):Le A i:=⟨λh a=>c.has h (b.has h a),λh a=>by rw[c.kind h (b.has h a),b.kind h a],λh a=>by rw[c.Bk h (b.has h a),b.Bk h a],λh a=>by rw[c.name h (b.has h a),b.name h a]⟩
def Le.aHe(c:∀h,A.has h->A'.has h)(b:∀h,A.has h->A'.nd h=A.nd h):Le A A':=⟨c,λh a=>by rw[b h a],λh a=>by rw[b h a],λh a=>by rw[b h a]⟩
def eI(a:A.has h):h≠A.len+1:=λe=>SC (e▸a)
def Ol(a:A.has h):(A.add x).nd h=A.nd h:=by rw[J1,Aa (eI a)]
def XI:Le A (A.add x):= .aHe (λh a=>Eh.2 (yq a)) λh a=>Ol a
def eJ(h1:x.kind=(A.nd h).kind)(h2:x.Bk=(A.nd h).Bk)(a:x.name=(A.nd h).name):Le A (A.set h x):=by
 refine⟨λk b=>JE.2 b,?_,?_,?_⟩<;>intro k b<;>rw[Lg]<;>split;.grind
 .rfl
 .grind
 .rfl
 .grind
 .rfl
def xb{l:List Int}:Le A (A.set h {A.nd h with Bj:=l}):=eJ rfl rfl rfl
def xc:Le A (A.set h {A.nd h with Ha:=p}):=eJ rfl rfl rfl
def SF:Le A (A.cut n):=by
 rw[w4];simp only;split;.exact .refl
 .exact Le.trans xb xc
def aJu:Le A (A.Mf p n b):=Le.trans xb xc
def O0:Le A (A.Gu p n b):=by rw[v5];split;exact SF.trans aJu;exact .refl
def JF:Le A (A.E8 n p b):=by rw[v4];split;exact .refl;exact O0
def O1(ok:Fj A e):Fj (A.E8 n p b) e:=by rw[v4];split;exact ok;exact QN ok
section
variable{d sp:Int}{nm:Aj}{l:List Bb}
def ag(a:A.has h):(A.elem d sp nm l).has h/\(A.elem d sp nm l).nd h=A.nd h:=by
 rw[w9];simp only
 split;.exact⟨JE.2 (Eh.2 (yq (PY (Eh.2 (yq a))))),by rw[Lg,Aa (λe=>(eI a) e.1),Ol (PY (Eh.2 (yq a))),eF (yq (eI (Eh.2 (yq a)))),Ol a]⟩
 .exact⟨Eh.2 (yq a),Ol a⟩
def ah:(A.elem d sp nm l).has (A.len+1)/\((A.elem d sp nm l).nd (A.len+1)).kind=4/\((A.elem d sp nm l).nd (A.len+1)).Bk=sp/\((A.elem d sp nm l).nd (A.len+1)).name=nm/\((A.elem d sp nm l).nd (A.len+1)).Bj=[]/\((A.elem d sp nm l).nd (A.len+1)).Ha=0/\((A.elem d sp nm l).nd (A.len+1)).Cd=d/\((A.elem d sp nm l).nd (A.len+1)).Al=CL l:=by
 rw[w9];simp only
 split;.let c:=Eh (x:={kind:=2,E3:=A.len+1,Cd:=(A.add {kind:=4,Cd:=d,Bk:=sp,name:=nm,Al:=CL l}).Gv d}).2 (yq (PY (h:=d) (Eh.2 (yk rfl):(A.add {kind:=4,Cd:=d,Bk:=sp,name:=nm,Al:=CL l}).has (A.len+1))));rw[JE,Lg,Ae ⟨rfl,c⟩];exact⟨c,rfl,rfl,rfl,rfl,rfl,rfl,rfl⟩
 .rw[J1,Ae rfl];exact⟨Eh.2 (yk rfl),rfl,rfl,rfl,rfl,rfl,rfl,rfl⟩
def ZG:Le A (A.elem d sp nm l):= .aHe (λ_ h=>(ag h).1) λ_ h=>(ag h).2
end
def aj{l:List Bb}(ok:Fj A e)(c:A.has h)(i:(A.nd h).kind=4)(f:∀a∈l,0<=a.Bk/\a.Bk<=7):Fj (A.KV h l) e:=by let b:=ok.Vd h c;refine mr ok c ⟨b.k,b.Bj,λh=>absurd i h,b.nm,b.dt,b.data,b.Cm,b.sp,λa j=>f a (zV j),lP l,b.VX,b.Rm,b.root,b.wj⟩ rfl rfl rfl ⟨(ok.Cd h c).1,(ok.Cd h c).2,ok.jP h c⟩ rfl rfl λd=>d
def mw{s:Aj}(ok:Fj A e)(a:A.has h)(hk:(A.nd h).kind=5\/(A.nd h).kind=6):Fj (A.VY h s) e:=by let b:=ok.Vd h a;refine mr ok a ⟨b.k,b.Bj,b.elem,b.nm,b.dt,λf d=>by have:(A.nd h).kind≠5:=f;have:(A.nd h).kind≠6:=d;omega,b.Cm,b.sp,b.asp,b.CL,b.VX,b.Rm,b.root,b.wj⟩ rfl rfl rfl ⟨(ok.Cd h a).1,(ok.Cd h a).2,ok.jP h a⟩ rfl rfl λc=>c
def pD{kd d:Int}{s:Aj}(ok:Fj A e)(he:e≠A.len+1)(a:A.has d/\(A.nd d).kind=1)(hk:kd=5\/kd=6):Fj (A.add {kind:=kd,Cd:=d,data:=s}) e:=by
 refine SD ok ?_ (yk ⟨ES,a⟩) rfl rfl rfl rfl (λh=>?_);.constructor<;>simp[CL,HP]<;>omega
 .have:=h.1;simp at this;omega
def my{s:Aj}:Le A (A.VY h s):=eJ rfl rfl rfl
def ak{l:List Bb}:Le A (A.KV h l):=eJ rfl rfl rfl
def pE{sp:Int}{a:Bb}:0<=(Dd sp a).Bk/\(Dd sp a).Bk<=7:=by
 rw[Dd];split
 .split
  .rename_i s m b;have:∀x∈fT,0<=x.2.1/\x.2.1<=7:=AR;rw[EK] at b;cases c:fT.find? λx=>decide (LV sp a.name=x.1)
   .rw[c] at b;cases b
   next y=>rw[c] at b;have:=this y (TT c);simp at b;rwa[b] at this
  .grind
 .grind
end
structure E4(b:BS):Prop where
 ok:Fj b.a 0
 Cd:b.a.has b.Cd/\(b.a.nd b.Cd).kind=1
 op:∀i∈b.AJ.tail,b.a.has i.node/\(b.a.nd i.node).kind=4
 opN:(b.AJ.tail.map y6).Nodup
 ac:∀e∈b.AX,e.node=0\/(b.a.has e.node/\(b.a.nd e.node).kind=4)
 mz:((b.AX.map y8).filter λn=>decide (n≠0)).Nodup
structure BA(b:BS):Prop where
 ok:Fj b.a 0
 Cd:b.a.has b.Cd/\(b.a.nd b.Cd).kind=1
def E4.ba{b:BS}(o:E4 b):BA b:=⟨o.ok,o.Cd⟩
instance{b:BS}:Coe (E4 b) (BA b):=⟨E4.ba⟩
section
variable{b:BS}{t:Int}
def eK{U:Type}{l b:List U}(h:yx l b):yx l.tail b.tail:=by
 cases h with
 |slnil=>exact AW _
 |cons a h=>exact(List.tail_sublist _).trans h
 |cons_cons a h=>exact h
def aDW{A A':Ar}{l:List Item}(a:Le A A')(h:∀i∈l,A.has i.node/\(A.nd i.node).kind=4):∀i∈l,A'.has i.node/\(A'.nd i.node).kind=4:=λi b=>have:=h i b;a.kind _ this.1▸⟨a.has _ this.1,this.2⟩
def xd{A A':Ar}{l:List B9}(a:Le A A')(h:∀e∈l,e.node=0\/(A.has e.node/\(A.nd e.node).kind=4)):∀e∈l,e.node=0\/(A'.has e.node/\(A'.nd e.node).kind=4):=by
 intro e b;obtain h|h:=h e b
 .exact yq h
 .rw[a.kind _ h.1];exact yk ⟨a.has _ h.1,h.2⟩
def E4.IN(o:E4 b){A:Ar}(ok:Fj A 0)(c:Le b.a A):E4 {b with a:=A}:=
 ⟨ok,c.kind _ o.Cd.1▸⟨c.has _ o.Cd.1,o.Cd.2⟩,aDW c o.op,o.opN,xd c o.ac,o.mz⟩
def E4.aS9(o:E4 b){l:List Item}(d:∀i∈l.tail,i∈b.AJ.tail)(c:(l.tail.map y6).Nodup):E4 {b with AJ:=l}:=
 ⟨o.ok,o.Cd,λi a=>o.op i (d i a),c,o.ac,o.mz⟩
def E4.I0(o:E4 b){l:List Item}(a:yx l b.AJ):E4 {b with AJ:=l}:=o.aS9 (λ_ c=>(eK a).subset c) (o.opN.sublist ((eK a).map _))
def E4.ao(o:E4 b){l:List B9}(a:yx l b.AX):E4 {b with AX:=l}:=
 ⟨o.ok,o.Cd,o.op,o.opN,λe c=>o.ac e (a.subset c),o.mz.sublist ((a.map _).filter _)⟩
def Co{p q:Item->Bool}{l:List Item}:yx (Dg p q l) l:=by
 let a:∀r:List Item,yx (NG p q r) r:=by
  intro r;induction r with
  |nil=>exact AW _
  |cons x r ih=>
   cases r
   .exact AW _
   next y r=>
    rw[NG];split;.grind
    .grind
 have:=(a l.reverse).reverse;rwa [Jl] at this
def I1{n:Int}{l:List Item}:yx (Ii n l) l:=by rw[Ii];split;exact AW _;exact Co
def Ds{U:Type}{l:List U}{k:Nat}:yx (Bl l k) l:=by
 conv=>rhs;rw[<-CU k l]
 refine yx.append (AW _) ?_;exact FJ▸List.drop_sublist _ _
def Hp{n:Int}{l:List Item}:yx (Cn n l) l:=by rw[Cn];split;exact AW _;exact Ds
def m_{l:List Item}{i:Int}(a:0<=i)(h1:i<zz l):Dl l i∈l:=by rw[Dl];rw[Ae a,A3,Ap Ab];exact AV _
def QP{U:Type}{q:U->Bool}{l:List U}:A7 q l<zz l∧-1<=A7 q l:=by rcases DJ with⟨a,_⟩|⟨n,hn,a,_⟩<;>rw[a]<;>omega
def aDX:b.Mi.2≠0->b.a.has b.Mi.2/\(b.a.nd b.Mi.2).Ha=b.Mi.1:=by
 rw[BS.Mi];simp only
 split;.exact λh=>absurd rfl h
 .split;.exact λh=>absurd rfl h
  .split;.rename_i c;intro _;refine⟨?_,rfl⟩;apply Mw;intro h;exact c (by rw[HO h])
   .exact λh=>absurd rfl h
def aq:(b.place t).2≠0->b.a.has (b.place t).2/\(b.a.nd (b.place t).2).Ha=(b.place t).1:=by
 rw[BS.place];simp only
 split;.exact λh=>absurd rfl h
 .generalize(if t=0 then(DZ b.AJ).node else t)=c;have d:((if b.FW=zb/\W9 Jz b.a c then b.Mi else(c,0)).2≠0->b.a.has (if b.FW=zb/\W9 Jz b.a c then b.Mi else(c,0)).2/\(b.a.nd (if b.FW=zb/\W9 Jz b.a c then b.Mi else(c,0)).2).Ha=(if b.FW=zb/\W9 Jz b.a c then b.Mi else(c,0)).1):=by
   split;.exact aDX
   .exact λh=>absurd rfl h
  generalize(if b.FW=zb/\W9 Jz b.a c then b.Mi else(c,0))=pb at d;split;.exact λh=>absurd rfl h
  .exact d
def Tt(o:BA b){p:Int}:b.a.has (b.J2 p)/\(b.a.nd (b.J2 p)).kind=1:=by
 rw[BS.J2];by_cases d:b.a.has p
 .let c:∀q,b.a.has q->b.a.has (if(b.a.nd q).Cd≠0 then(b.a.nd q).Cd else b.Cd)/\(b.a.nd (if(b.a.nd q).Cd≠0 then(b.a.nd q).Cd else b.Cd)).kind=1:=by
   intro q e;split;.exact o.ok.Cd q e
   .exact o.Cd
  split;next f=>exact c _ (o.ok.cont p d f).1
  .exact c p d
 .rw[HO d];exact o.Cd
variable{nm:Aj}{at_:List Bb}{sp p:Int}
structure aAq(b b1:BS)(i:Item):Prop where
 has:b1.a.has i.node
 kind:(b1.a.nd i.node).kind=4
 Bk:(b1.a.nd i.node).Bk=i.Bk
 name:(b1.a.nd i.node).name=i.name
 new:¬b.a.has i.node
def SG(o:E4 b)(f:v8 sp):E4 (b.EL nm at_ sp p)/\aAq b (b.EL nm at_ sp p) (b.Hv nm at_ sp)/\Le b.a (b.EL nm at_ sp p).a:=by
 unfold x9 BS.Hv;rw[Ae f,Ae f];let ok:=wv (nm:=vt sp nm) (l:=at_.map (Dd sp)) o.ok (Tt o.ba (p:=p)) f (by intro a h;obtain⟨c,_,rfl⟩:=Bv.1 h;exact pE)
 let e:=ah (A:=b.a) (d:=b.J2 p) (sp:=sp) (nm:=vt sp nm) (l:=at_.map (Dd sp));exact⟨o.IN ok ZG,⟨e.1,e.2.1,e.2.2.1,e.2.2.2.1,SC⟩,ZG⟩
def nc(o:BA b)(e:v8 sp):BA (b.EL nm at_ sp p):=by
 rw[x9];rw[Ae e];let ok:=wv (nm:=vt sp nm) (l:=at_.map (Dd sp)) o.ok (Tt o (p:=p)) e (by intro a f;obtain⟨c,_,rfl⟩:=Bv.1 f;exact pE)
 let l:=ZG (A:=b.a) (d:=b.J2 p) (sp:=sp) (nm:=vt sp nm) (l:=at_.map (Dd sp));exact⟨ok,l.kind _ o.Cd.1▸⟨l.has _ o.Cd.1,o.Cd.2⟩⟩
def aDY(o:BA b):BA (b.D5 nm at_ sp):=by
 rw[vo];split
 next f=>have c:=nc (nm:=nm) (at_:=at_) (p:=(b.place 0).1) o f;exact⟨O1 c.ok,by
   let e:(b.EL nm at_ sp (b.place 0).1).Cd=b.Cd:=by rw[x9];split<;>rfl
   let d:=c.Cd;rw[e] at d;exact e▸JF.kind _ d.1▸⟨JF.has _ d.1,d.2⟩⟩
 .exact o
section
variable(o:E4 b){b1:BS}{i:Item}(f:aAq b b1 i)
def PZ:i.node∉b.AJ.tail.map y6:=λh=>let⟨j,a,e⟩:=Bv.1 h;f.new (e▸(o.op j a).1)
def Tu:i.node∉b.AX.map y8:=by
 intro h;let⟨j,a,e⟩:=Bv.1 h;obtain h1|h1:=o.ac j a
 .have:=f.has.1;omega
 .exact f.new (e▸h1.1)
end
def æ{U:Type}[DecidableEq U]{l:List U}{k:Nat}{x:U}(h:l.Nodup)(d:x∉l):(l.take k++x::l.drop k).Nodup:=by
 rw[C2];rw[<-(CU k l),C2] at h;refine⟨h.1,CA.2 ⟨λe=>d (BU e),h.2.1⟩,?_⟩;rintro a ha c b rfl;obtain rfl|b:=A0.1 b
 .grind
 .grind
def ng{U:Type}[DecidableEq U]{l:List U}{k:Nat}{x:U}(h:l.Nodup)(b:x∉l):(l.set k x).Nodup:=by
 rw[B0];split
 .rw[C2];rw[<-(CU k l),C2] at h;let e:yx (l.drop (k+1)) (l.drop k):=by grind
  refine⟨h.1,CA.2 ⟨λi=>b (BU i),h.2.1.sublist e⟩,?_⟩;rintro a f c d rfl;obtain rfl|d:=A0.1 d
  .exact b (BQ f)
  .grind
 .exact h
def lQ{U Z:Type}(f:U->Z)(l:List U)k(x:U):(l.take k++x::l.drop k).map f=(l.map f).take k++f x::(l.map f).drop k:=AF
def aAr{l:List Item}{k:Nat}{x:Item}(a:1<=k\/l=[]):(l.take k++x::l.drop k).tail=l.tail.take (k-1)++(if l=[] then[] else[x])++l.tail.drop (k-1):=by
 cases l
 .simp
 next y l=>obtain⟨k,rfl⟩:∃m,k=m+1:=⟨k-1,by obtain h|h:=a;omega;cases h⟩;simp
def E4.aDZ(o:E4 b){i:Item}{k:Nat}(m:b.a.has i.node/\(b.a.nd i.node).kind=4)(l:i.node∉b.AJ.tail.map y6)(h:1<=k\/b.AJ=[]):E4 {b with AJ:=b.AJ.take k++i::b.AJ.drop k}:=by
 let e:(b.AJ.take k++i::b.AJ.drop k).tail=b.AJ.tail.take (k-1)++(if b.AJ=[] then[] else[i])++b.AJ.tail.drop (k-1):=aAr h;by_cases d:b.AJ=[]
 .rw[d] at e;simp at e;refine⟨o.ok,o.Cd,?_,?_,o.ac,o.mz⟩;.show∀j∈(b.AJ.take k++i::b.AJ.drop k).tail,_;rw[d];simp
  .show((b.AJ.take k++i::b.AJ.drop k).tail.map y6).Nodup;rw[d];simp
 .rw[Aa d,AO,Lq] at e;refine⟨o.ok,o.Cd,?_,?_,o.ac,o.mz⟩
  .show∀j∈(b.AJ.take k++i::b.AJ.drop k).tail,_;rw[e];intro j c;obtain c|c:=AA.1 c
   .exact o.op j (BQ c)
   .rcases A0.1 c with rfl|c
    .exact m
    .exact o.op j (BU c)
  .show((b.AJ.take k++i::b.AJ.drop k).tail.map y6).Nodup;rw[e,lQ];exact æ o.opN l
def lR{U:Type}{l:List U}{k:Nat}{x:U}:(l.set k x).tail=if k=0 then l.tail else l.tail.set (k-1) x:=by
 cases l
 .simp
 next y l=>cases k<;>simp
def E4.nh(o:E4 b){i:Item}{k:Nat}(f:b.a.has i.node/\(b.a.nd i.node).kind=4)(e:i.node∉b.AJ.tail.map y6):E4 {b with AJ:=b.AJ.set k i}:=by
 refine⟨o.ok,o.Cd,?_,?_,o.ac,o.mz⟩
 .show∀j∈(b.AJ.set k i).tail,_;rw[lR];split;.exact o.op
  .intro j c;obtain c|rfl:=DY c
   .exact o.op j c
   .exact f
 .show((b.AJ.set k i).tail.map y6).Nodup;rw[lR];split;.exact o.opN
  .rw[Fa];exact ng o.opN e
section
variable{l:List Int}{k:Nat}{x:Int}(h:(l.filter λn=>decide (n≠0)).Nodup)(hx:x∉l)
def aAs:((l.take k++x::l.drop k).filter λn=>decide (n≠0)).Nodup:=by
 let e:=CU k l;rw[FY,C2];by_cases h0:x=0;.grind
 .grind
def aAt:((l.set k x).filter λn=>decide (n≠0)).Nodup:=by
 rw[B0];split
 .let h2:(((l.take k++l.drop (k+1))).filter λn=>decide (n≠0)).Nodup:=h.sublist ((Ds).filter _);by_cases h0:x=0;.grind
  .grind
 .exact h
end
def E4.aJv(o:E4 b){e:B9}{k:Nat}(h:e.node=0\/(b.a.has e.node/\(b.a.nd e.node).kind=4))(d:e.node=0\/e.node∉b.AX.map y8):E4 {b with AX:=b.AX.take k++e::b.AX.drop k}:=by
 refine⟨o.ok,o.Cd,o.op,o.opN,?_,?_⟩
 .intro j c;obtain c|c:=AA.1 c
  .exact o.ac j (BQ c)
  .rcases A0.1 c with rfl|c
   .exact h
   .exact o.ac j (BU c)
 .show(((b.AX.take k++e::b.AX.drop k).map y8).filter _).Nodup;rw[lQ];obtain d|d:=d
  .have:=o.mz;conv at this=>rw[<-CU k (b.AX.map y8),FY]
   rwa[FY,List.filter_cons_of_neg (by simp[d])]
  .exact aAs o.mz d
def E4.ni(o:E4 b){e:B9}{k:Nat}(h:b.a.has e.node/\(b.a.nd e.node).kind=4)(f:e.node∉b.AX.map y8):E4 {b with AX:=b.AX.set k e}:=by
 refine⟨o.ok,o.Cd,o.op,o.opN,?_,?_⟩
 .intro j c;obtain c|rfl:=DY c
  .exact o.ac j c
  .exact yk h
 .show(((b.AX.set k e).map y8).filter _).Nodup;exact Fa▸aAt o.mz f
def SH(o:E4 b):E4 (b.D5 nm at_ sp):=by
 rw[vo];split
 .rename_i e;let⟨c,f,hl⟩:=SG (nm:=nm) (at_:=at_) (p:=(b.place 0).1) o e;let d:(b.EL nm at_ sp (b.place 0).1).AJ=b.AJ:=by rw[x9];rw[Ae e]
  have:=(c.IN (O1 (n:=b.a.len+1) (p:=(b.place 0).1) (b:=(b.place 0).2) c.ok) JF).aDZ (k:=zz b.AJ) ⟨JF.has _ f.has,JF.kind _ f.has▸f.kind⟩ (d▸PZ o f) (by rw[d];cases b.AJ with|nil=>exact yk rfl|cons y l=>exact yq AF);rw[d,Bx,EG] at this;simp[d];exact this
 .exact o
def V0{l:List B9}{e:B9}:∃a,yx a l/\ae e l=a++[e]:=by
 rw[ae];split;.exact⟨_,Ds,rfl⟩
 .grind
def xe:Le b.a (b.D5 nm at_ sp).a:=by
 unfold vo x9;split;.exact Le.trans ZG JF
 .exact .refl
def eL(e:v8 sp):(b.D5 nm at_ sp).a.has (b.a.len+1)/\((b.D5 nm at_ sp).a.nd (b.a.len+1)).kind=4:=by
 unfold vo x9;rw[Ae e];simp only
 rw[Ae e];let c:=ah (A:=b.a) (d:=b.J2 (b.place 0).1) (sp:=sp) (nm:=vt sp nm) (l:=at_.map (Dd sp));exact⟨JF.has _ c.1,JF.kind _ c.1▸c.2.1⟩
def D9:(b.D5 nm at_ sp).AX=b.AX:=by unfold vo x9;split<;>rfl
def aAu:(b.D5 nm at_ sp).Cd=b.Cd:=by unfold vo x9;split<;>rfl
def KP:v8 1:=⟨AR,AR⟩
def aD0(o:E4 b):b.a.len+1∉b.AX.map y8:=by
 intro h;let⟨j,c,e⟩:=Bv.1 h;obtain h1|h1:=o.ac j c
 .unfold wu at e;omega
 .exact SC (e▸h1.1)
def lS(o:E4 b):E4 (b.HH nm at_):=by
 unfold BS.HH;simp only
 let⟨f,d,i⟩:=V0 (l:=(b.D5 nm at_ 1).AX) (e:=⟨b.a.len+1,nm,at_⟩);rw[i];have:=((SH o).ao d).aJv (e:=⟨b.a.len+1,nm,at_⟩) (k:=zz f) (yk (eL KP)) (yk (λh=>aD0 o ((d.map y8).subset h)))
 exact zv this
def E4.of_eq{c:BS}(o:E4 b)(e:c.a=b.a)(h:c.Cd=b.Cd)(f:c.AJ=b.AJ)(d:c.AX=b.AX):E4 c:=
 ⟨e▸o.ok,e▸h▸o.Cd,e▸f▸o.op,f▸o.opN,e▸d▸o.ac,d▸o.mz⟩
def nj{l:List Int}{a t:Int}(h:XH l a=zn t):t∈l:=by
 rw[XH] at h;split at h;.grind
 .exact(List.takeWhile_sublist _).subset (List.mem_of_getLast? h)
def ç{A:Ar}{s:Aj}{p bf:Int}(ok:Fj A 0):Fj (vb A s p bf) 0/\Le A (vb A s p bf):=by
 by_cases c:A.has p
 .let i:0≠A.len+1:=by rw[wu];omega
  let d:=O1 (n:=A.len+1) (p:=p) (b:=bf) (pD (s:=s) ok i (ok.Cd p c) (yq rfl));rw[vb];split
  .split
   .rename_i t f;split;.rename_i h;exact⟨mw ok (ok.OL p c _ (nj f)).1 (yq h),my⟩
    .exact⟨d,Le.trans XI JF⟩
   .exact⟨d,Le.trans XI JF⟩
  .exact⟨ok,.refl⟩
 .let e:vb A s p bf=A:=by rw[vb];rw[Aa (by rw[HO c];simp[Mt])]
  rw[e];exact⟨ok,.refl⟩
def xf(o:E4 b){r:Int}:E4 (b.Nf r):=have h:=ç o.ok;o.IN h.1 h.2
def V4{A:Ar}{s:Aj}{p bf:Int}(ok:Fj A 0):Fj (BS.EU A s p bf) 0/\Le A (BS.EU A s p bf):=by
 rw[BS.EU];split
 .rename_i b;let a:A.has p:=by
   by_cases a:A.has p;.exact a
   .rw[HO a] at b;rw[Mt] at b;simp at b
  let c:0≠A.len+1:=by rw[wu];omega
  exact⟨O1 (pD ok c (ok.Cd p a) (yk rfl)),Le.trans XI JF⟩
 .exact⟨ok,.refl⟩
section
variable(o:E4 b)
def eM{s:Aj}{p:Int}:E4 (b.DL s p):=by
 rw[BS.DL];split;.let h:=V4 (s:=s) (p:=(b.place 0).1) (bf:=(b.place 0).2) o.ok;exact o.IN h.1 h.2
 .let h:=V4 (s:=s) (p:=p) (bf:=0) o.ok;exact o.IN h.1 h.2
def nl{st:Int}:E4 (b.DM nm at_ st):=(SH o).of_eq rfl rfl rfl rfl
def è:E4 b.BT:=by
 rw[BS.BT];split;.exact o.I0 (Co.trans Co)
 .exact o
def lT:E4 (b.CZ nm):=by
 rw[BS.CZ];split
 .split;.exact o.I0 (I1.trans Co)
  .exact o
 .exact o
def V5:E4 b.HQ:=o.of_eq rfl rfl rfl rfl
def au{l:List Bb}{h:Int}:E4 (b.ER l h):=by
 rw[BS.ER];split
 .rename_i f;let d:b.a.has h:=by
   by_cases i:b.a.has h;.exact i
   .rw[HO i] at f;simp at f
  refine o.IN (aj o.ok d f ?_) ak;intro a e;obtain e|e:=AA.1 e
  .exact(o.ok.Vd h d).asp a e
  .obtain⟨c,_,rfl⟩:=Bv.1 e;simp
 .exact o
def eO:E4 b.Cu:=by
 rw[BS.Cu];split;.exact o
 .exact(V5 (((o.I0 (Co |>.trans Co)).ao (B8 _ _)).of_eq rfl rfl rfl rfl))
def aAv:E4 b.Gk:=by
 rw[BS.Gk];split;.exact o
 .exact o.I0 (B8 _ _)
end
structure aNs(b:BS)(l:List B9)(r:List B9×BS):Prop where
 ok:E4 r.2
 le:Le b.a r.2.a
 AX:r.2.AX=b.AX
 len:r.1.length=zz l
 nodes:∀e∈r.1,r.2.a.has e.node/\(r.2.a.nd e.node).kind=4/\¬b.a.has e.node
 aHf:(r.1.map y8).Nodup
 aNt:r.1.map B9.name=l.map B9.name
def xg:∀{l:List B9} {b:BS},E4 b->aNs b l (vc l b)
 |[],b,o=>by
  refine⟨o,.refl,rfl,rfl,?_,?_,rfl⟩;.intro e k;cases k
  .exact S4
 |e::l,b,o=>by
  let r:=xg (l:=l) (SH (nm:=e.name) (at_:=e.Al) (sp:=1) o);let d:=eL (b:=b) (nm:=e.name) (at_:=e.Al) KP;refine⟨r.ok,xe.trans r.le,r.AX.trans D9,by simp[vc,r.len],?_,?_,by simp[vc,r.aNt]⟩
  .intro c a;obtain rfl|a:=A0.1 a
   .exact⟨r.le.has _ d.1,(r.le.kind _ d.1).trans d.2,SC⟩
   .have:=r.nodes c a;exact⟨this.1,this.2.1,λh=>this.2.2 (xe.has _ h)⟩
  .simp only[vc,Bn,CA];exact⟨λh=>let⟨c,a,f⟩:=Bv.1 h;(r.nodes c a).2.2 (f▸d.1),r.aHf⟩
def eP(o:E4 b):E4 b.A4:=by
 let r:=xg (l:=b.AX.drop b.Ng) o;rw[BS.A4];let hc:=xd r.le o.ac;refine⟨r.ok.ok,r.ok.Cd,r.ok.op,r.ok.opN,?_,?_⟩
 .intro e h;obtain h|h:=AA.1 h
  .grind
  .exact yk ⟨(r.nodes e h).1,(r.nodes e h).2.1⟩
 .show(((b.AX.take b.Ng++(vc (b.AX.drop b.Ng) b).1).map y8).filter _).Nodup;rw[BJ,FY,C2];refine⟨o.mz.sublist (((B8 _ _).map _).filter _),r.aHf.filter _,?_⟩;rintro a k c p rfl;obtain⟨i,n,rfl⟩:=Bv.1 (GN.1 k).1;let⟨g,m,j⟩:=Bv.1 (GN.1 p).1;let f:=(r.nodes g m);obtain d|d:=o.ac i (BQ n)
  .have:=f.1.1;omega
  .grind
def eQ(o:E4 b){blk anc:Int}{far i:Nat}{l:Int}{m:Nat}(h:b.a.has l):E4 (θ blk anc far i b l m).1/\(θ blk anc far i b l m).1.a.has (θ blk anc far i b l m).2.1/\Le b.a (θ blk anc far i b l m).1.a:=by
 rw[θ];simp only
 split;.exact⟨o.I0 Ds,h,.refl⟩
 .split;.exact⟨(o.ao Ds).I0 Ds,h,.refl⟩
  .generalize Mk:b.AX.getD (Eo (b.AJ.getD i z9).node b.AX).toNat yj=en;let⟨d,f,r⟩:=SG (nm:=en.name) (at_:=en.Al) (p:=anc) o KP;let c:Le (b.EL en.name en.Al 1 anc).a ((b.EL en.name en.Al 1 anc).a.Gu (b.Hv en.name en.Al 1).node l 0):=O0;let q:(b.EL en.name en.Al 1 anc).AJ=b.AJ:=by rw[x9];rw[Ae KP]
   let n:(b.EL en.name en.Al 1 anc).AX=b.AX:=by rw[x9];rw[Ae KP]
   exact⟨((d.IN (QN d.ok) c).nh ⟨c.has _ f.has,c.kind _ f.has▸f.kind⟩ (q▸PZ o f)).ni ⟨c.has _ f.has,c.kind _ f.has▸f.kind⟩ (n▸Tu o f),c.has _ f.has,r.trans c⟩
def ZH{blk anc:Int}{far k:Nat}:∀{c:Nat} {s:BS×Int×Nat},E4 s.1->s.1.a.has s.2.1->E4 (v9 blk anc far k c s).1/\(v9 blk anc far k c s).1.a.has (v9 blk anc far k c s).2.1/\Le s.1.a (v9 blk anc far k c s).1.a
 |0,s,o,h=>⟨o,h,.refl⟩
 |c+1,s,o,h=>let⟨f,j,e⟩:=eQ o h;let⟨d,i,g⟩:=ZH f j;⟨d,i,e.trans g⟩
def O2{n:Int}:∀{l:List Int} {A:Ar},Fj A 0->Fj (vi A n l) 0/\Le A (vi A n l)
 |[],A,ok=>⟨ok,.refl⟩
 |x::l,A,ok=>have h:=O2 (QN ok);⟨h.1,Le.trans O0 h.2⟩
def aD1{l:List Item}{k:Int}:1<=ET k (zz l)\/l=[]:=by
 cases l
 .exact yk rfl
 next y l=>left;rw[ET];rw[Bg];omega
def é{fe:B9}{blk anc:Int}{s:BS×Int×Nat}(o:E4 s.1):E4 (BS.HW fe blk anc s)/\Le s.1.a (BS.HW fe blk anc s).a:=by
 rw[BS.HW];simp only
 generalize eR:s.1.place anc=pb;let i:Le s.1.a (s.1.a.E8 s.2.1 pb.1 pb.2):=JF;have c:=o.IN (O1 o.ok) i;generalize t:({s.1 with a:=s.1.a.E8 s.2.1 pb.1 pb.2}:BS)=b2 at c;let q:b2.a=s.1.a.E8 s.2.1 pb.1 pb.2:=by rw[<-t]
 let⟨j,f,e⟩:=SG (nm:=fe.name) (at_:=fe.Al) (p:=blk) c KP;have u:(b2.EL fe.name fe.Al 1 blk).AJ=b2.AJ:=by rw[x9];rw[Ae KP]
 have r:(b2.EL fe.name fe.Al 1 blk).AX=b2.AX:=by rw[x9];rw[Ae KP]
 generalize ĥ:b2.EL fe.name fe.Al 1 blk=b3 at*;generalize hn:b2.Hv fe.name fe.Al 1=n at*;let⟨m,d⟩:=O2 (n:=n.node) (l:=(b3.a.nd blk).Bj) j.ok;let k:((vi b3.a n.node (b3.a.nd blk).Bj).Gu blk n.node 0).has n.node/\(((vi b3.a n.node (b3.a.nd blk).Bj).Gu blk n.node 0).nd n.node).kind=4:=
  ⟨(d.trans O0).has _ f.has,(d.trans O0).kind _ f.has▸f.kind⟩
 exact⟨((((j.IN (QN m) (d.trans O0)).ao Ds).I0 Hp).aDZ k (λh=>PZ c f (((eK Hp).map y6).subset (by rwa[u] at h))) aD1).aJv (yk k) (yk (λh=>Tu c f ((Ds.map y8).subset (by rwa[r] at h)))),by rw[q] at e;exact i.trans (e.trans (d.trans O0))⟩
def eS(o:E4 b):E4 (b.round nm).2/\Le b.a (b.round nm).2.a:=by
 let d:Le b.a (b.CZ nm).a:=by
  rw[BS.CZ];split;.split<;>exact .refl
  .exact .refl
 rw[BS.round];simp only
 split;.exact⟨lT o,d⟩
 .split;.exact⟨o.ao Ds,.refl⟩
  .split;.exact⟨o,.refl⟩
   .split;.exact⟨(o.I0 I1).ao Ds,.refl⟩
    .rename_i h;let aZJ:Ef (b.AX.getD (D2 nm b.AX).toNat yj).node b.AJ<zz b.AJ/\1<=Ef (b.AX.getD (D2 nm b.AX).toNat yj).node b.AJ:=by
      rw[J0] at h⊢;split;next l=>rw[Ae l] at h;omega
      .rename_i l;rw[Aa l] at h;rw[FQ] at h⊢;split;.rename_i k j;have:=(Fu.1 j).1;rw[Bp] at this;omega
       next j=>rw[j] at h;simp at h
     let q:b.a.has (b.AJ.getD (Ef (b.AX.getD (D2 nm b.AX).toNat yj).node b.AJ).toNat z9).node:=by rw[A3,Ap Ab];refine(o.op _ ?_).1;rw[List.mem_iff_getElem];exact⟨(Ef (b.AX.getD (D2 nm b.AX).toNat yj).node b.AJ).toNat-1,by rw[List.length_tail];omega,by rw[List.getElem_tail];show b.AJ[_]'_=b.AJ[_]'_;congr 1;omega⟩
     let⟨f,h1,p⟩:=ZH (blk:=(b.AJ.getD (Ef (b.AX.getD (D2 nm b.AX).toNat yj).node b.AJ).toNat z9).node) (anc:=(b.AJ.getD ((A7 (Bz (b.AX.getD (D2 nm b.AX).toNat yj).node) b.AJ).toNat-1) z9).node) (far:=(Ef (b.AX.getD (D2 nm b.AX).toNat yj).node b.AJ).toNat) (k:=(A7 (Bz (b.AX.getD (D2 nm b.AX).toNat yj).node) b.AJ).toNat) (c:=(Ef (b.AX.getD (D2 nm b.AX).toNat yj).node b.AJ).toNat-1 -(A7 (Bz (b.AX.getD (D2 nm b.AX).toNat yj).node) b.AJ).toNat) (s:=(b,(b.AJ.getD (Ef (b.AX.getD (D2 nm b.AX).toNat yj).node b.AJ).toNat z9).node,(D2 nm b.AX).toNat)) o q;let r:=é (fe:=b.AX.getD (D2 nm b.AX).toNat yj) (blk:=(b.AJ.getD (Ef (b.AX.getD (D2 nm b.AX).toNat yj).node b.AJ).toNat z9).node) (anc:=(b.AJ.getD ((A7 (Bz (b.AX.getD (D2 nm b.AX).toNat yj).node) b.AJ).toNat-1) z9).node) f;exact⟨r.1,p.trans r.2⟩
def lU:∀{n:Nat} {b:BS},E4 b->E4 (BS.EB n b nm)/\Le b.a (BS.EB n b nm).a
 |0,b,o=>⟨o,.refl⟩
 |n+1,b,o=>by
  let⟨c,d⟩:=eS (nm:=nm) o;unfold BS.EB;simp only
  split;.let r:=lU (n:=n) c;exact⟨r.1,d.trans r.2⟩
  .exact⟨c,d⟩
def lV(o:E4 b):E4 (b.CJ nm):=by
 rw[BS.CJ];split;.exact aAv o
 .exact(lU o).1
end
structure OM(A:Ar):Prop where
 n:zz A.n<=1000000000
 at_:∀x,(A.nd x).Al.length<=1000000000
 data:∀x,(A.nd x).data.length<=1000000000
def Eg(l:List Bb):Prop:=zz l<=1000/\∀a∈l,zz a.name<=1000/\zz a.value<=1000
structure BW(b:BS)m:Prop where
 n:zz b.a.n+m<=900000000
 at_:∀x,(b.a.nd x).Al.length+m<=1000000000
 data:∀x,(b.a.nd x).data.length+m<=1000000000
 AJ:zz b.AJ+m<=900000000
 AX:zz b.AX+m<=900000000
 tm:zz b.tm+m<=900000000
 DU:∀e∈b.AX,zz e.name<=1000/\Eg e.Al
 YD:∀i∈b.AJ,zz i.name<=1000
def BW.V6{b:BS}{m:Nat}(r:BW b m):OM b.a:=⟨by have:=r.n;omega,λx=>by have:=r.at_ x;omega,λx=>by have:=r.data x;omega⟩
def BW.le{b:BS}{m m':Nat}(r:BW b m)(hm:m'<=m):BW b m':=⟨by have:=r.n;omega,λx=>by have:=r.at_ x;omega,λx=>by have:=r.data x;omega,by have:=r.AJ;omega,by have:=r.AX;omega,by have:=r.tm;omega,r.DU,r.YD⟩
def lW{sp:Int}{y:Bb}:(Dd sp y).value=y.value:=by
 rw[Dd];split;.split<;>rfl
 .rfl
structure Pl(A A':Ar):Prop where
 n:zz A'.n=zz A.n
 at_:∀x,(A'.nd x).Al=(A.nd x).Al
 data:∀x,(A'.nd x).data=(A.nd x).data
section
variable{A A' o:Ar}{x p bf:Int}{b:BS}{m:Nat}
def Pl.refl:Pl A A:=⟨rfl,λ_=>rfl,λ_=>rfl⟩
def Pl.trans(h:Pl A A')(k:Pl A' o):Pl A o:=⟨k.n.trans h.n,λx=>(k.at_ x).trans (h.at_ x),λx=>(k.data x).trans (h.data x)⟩
def eT{y:FE}(b:y.Al=(A.nd x).Al)(a:y.data=(A.nd x).data):Pl A (A.set x y):=by
 refine⟨KU,λk=>?_,λk=>?_⟩<;>rw[Lg]<;>split;next e=>rw[b,e.1]
 .rfl
 next e=>rw[a,e.1]
 .rfl
def XJ{l:List Int}:Pl A (A.set x {A.nd x with Bj:=l}):=eT rfl rfl
def XK:Pl A (A.set x {A.nd x with Ha:=p}):=eT rfl rfl
def Ku:Pl A (A.Gu p x bf):=by
 rw[v5];split
 .refine Pl.trans ?_ (Pl.trans XJ XK);rw[w4];simp only;split;.exact .refl
  .exact Pl.trans XJ XK
 .exact .refl
def LB:Pl A (A.E8 x p bf):=by rw[v4];split;exact .refl;exact Ku
def Uc{n:Int}:∀{l:List Int} {A:Ar},Pl A (vi A n l)
 |[],A=> .refl
 |y::l,A=>Pl.trans Ku (Uc)
def BW.same{c:BS}(r:BW b m)(h:Pl b.a c.a)(h1:zz c.AJ<=zz b.AJ)(h2:zz c.AX<=zz b.AX)(g:zz c.tm<=zz b.tm)(f:∀e∈c.AX,zz e.name<=1000/\Eg e.Al)(d:∀i∈c.AJ,zz i.name<=1000):BW c m:=
 ⟨h.n▸r.n,λx=>by rw[h.at_];exact r.at_ x,λx=>by rw[h.data];exact r.data x,by have:=r.AJ;omega,by have:=r.AX;omega,by have:=r.tm;omega,f,d⟩
def BW.IN{A':Ar}(r:BW b m)(h:Pl b.a A'):BW {b with a:=A'} m:=r.same h (Af _) (Af _) (Af _) r.DU r.YD
def BW.I0{l:List Item}(r:BW b m)(h:yx l b.AJ):BW {b with AJ:=l} m:=r.same .refl h.length_le (Af _) (Af _) r.DU λi a=>r.YD i (h.subset a)
def BW.eq{c:BS}(r:BW b m)(f:c.a=b.a)(h:c.AJ=b.AJ)(d:c.AX=b.AX)(e:c.tm=b.tm):BW c m:=⟨f▸r.n,f▸r.at_,f▸r.data,h▸r.AJ,d▸r.AX,e▸r.tm,d▸r.DU,h▸r.YD⟩
structure XL(A A':Ar)k:Prop where
 n:zz A'.n<=zz A.n+k
 at_:∀x,(A'.nd x).Al.length<=max (A.nd x).Al.length 1000
 data:∀x,(A'.nd x).data.length<=max (A.nd x).data.length 100000
def LW{y:FE}(h1:zz y.Al<=1000)(h2:zz y.data<=100000):XL A (A.add y) 1:=by refine⟨by simp[wb],λx=>?_,λx=>?_⟩<;>rw[J1]<;>split<;>omega
def XL.trans{k k':Nat}(h:XL A A' k)(g:XL A' o k'):XL A o (k+k'):=
 ⟨by have:=h.n;have:=g.n;omega,λx=>by have:=h.at_ x;have:=g.at_ x;omega,λx=>by have:=h.data x;have:=g.data x;omega⟩
def XL.le{k a:Nat}(h:XL A A' k)(hk:k<=a):XL A A' a:=⟨by have:=h.n;omega,h.at_,h.data⟩
def ê(h:Pl A A'):XL A A' 0:=⟨h.n▸Af _,λx=>by rw[h.at_];omega,λx=>by rw[h.data];omega⟩
def np:XL A (A.DC x) 1:=by
 rw[vj];split;.exact(ê .refl).le Ab
 .have:=LW (A:=A) (y:={kind:=1,Cd:=A.len+1}) (AZ _) (AZ _);exact⟨this.n,this.at_,this.data⟩
def aAw{y:FE}(h1:zz y.Al<=1000)(h2:zz y.data<=100000):XL A (A.set x y) 0:=by refine⟨by rw[KU];exact Af _,λx=>?_,λx=>?_⟩<;>rw[Lg]<;>split<;>omega
def ë{d sp:Int}{nm:Aj}{l:List Bb}(j:zz l<=1000):XL A (A.elem d sp nm l) 3:=by
 let h:=BC (Tq) j;let i:=LW (A:=A) (y:={kind:=4,Cd:=d,Bk:=sp,name:=nm,Al:=CL l}) h (AZ _);rw[w9];simp only
 split;.exact i.trans ((np).trans ((LW (AZ _) (AZ _)).trans (aAw h (AZ _))))
 .exact i.le Ab
def BW.Kh{A':Ar}{k:Nat}(r:BW b (m+k))(h:XL b.a A' k):BW {b with a:=A'} m:=
 ⟨by have:=r.n;have:=h.n;simp only;omega,λx=>by have:=r.at_ x;have:=h.at_ x;have:=r.n;simp only;omega,λx=>by have:=r.data x;have:=h.data x;have:=r.n;simp only;omega,by have:=r.AJ;simp only;omega,by have:=r.AX;simp only;omega,by have:=r.tm;simp only;omega,r.DU,r.YD⟩
def eU{sp:Int}{nm:Aj}:(vt sp nm).length=zz nm:=by
 rw[vt];split
 .rcases Nw nm Ko with h|h
  .rw[h]
  .conv=>rhs;rw[<-h.2,VQ]
 .rfl
variable{nm:Aj}{l:List Bb}{sp:Int}
def Kv(r:BW b (m+3))(a:Eg l):BW (b.EL nm l sp p) m:=by
 rw[x9];split;.exact r.Kh (ë (by rw[Ao];exact a.1))
 .exact r.le Ab
def P0(hn:zz nm<=1000):(b.Hv nm l sp).name.length<=1000:=by
 rw[BS.Hv];split;.show(vt sp nm).length<=1000;rwa[eU]
 .exact AZ _
def BW.aAx{i:Item}{l':List Item}(r:BW b (m+1))(h1:zz l'<=zz b.AJ+1)(d:∀j∈l',j∈b.AJ\/j=i)(c:zz i.name<=1000):BW {b with AJ:=l'} m:=
 ⟨by have:=r.n;simp only;omega,λx=>by have:=r.at_ x;simp only;omega,λx=>by have:=r.data x;simp only;omega,by have:=r.AJ;simp only;omega,by have:=r.AX;simp only;omega,by have:=r.tm;simp only;omega,r.DU,λj a=>by
  obtain h|rfl:=d j a
  .exact r.YD j h
  .exact c⟩
def BW.aw{e:B9}{a:List B9}(r:BW b (m+1))(h1:zz a<=zz b.AX+1)(f:∀j∈a,j∈b.AX\/j=e)(d:zz e.name<=1000/\Eg e.Al):BW {b with AX:=a} m:=
 ⟨by have:=r.n;simp only;omega,λx=>by have:=r.at_ x;simp only;omega,λx=>by have:=r.data x;simp only;omega,by have:=r.AJ;simp only;omega,by have:=r.AX;simp only;omega,by have:=r.tm;simp only;omega,λj c=>by
  obtain h|rfl:=f j c
  .exact r.DU j h
  .exact d,r.YD⟩
def Ji(r:BW b (m+4))(e:Eg l)(d:zz nm<=1000):BW (b.D5 nm l sp) m:=by
 rw[vo];split
 .rename_i c;let ho:(b.EL nm l sp (b.place 0).1).AJ=b.AJ:=by rw[x9];rw[Ae c]
  refine ((Kv (r.le Ab) e).IN (LB)).aAx (i:=b.Hv nm l sp) (As▸A5▸Af _) (λj f=>?_) (P0 d);obtain h|h:=AA.1 f
  .exact yq h
  .exact yk (zv h)
 .exact r.le Ab
def YE(r:BW b (m+5))(d:Eg l)(c:zz nm<=1000):BW (b.HH nm l) m:=by
 unfold BS.HH;simp only
 let⟨l',f,k⟩:=V0 (l:=(b.D5 nm l 1).AX) (e:=⟨b.a.len+1,nm,l⟩);rw[k];refine (Ji (r.le Ab) d c).aw (e:=⟨b.a.len+1,nm,l⟩) (by have:=f.length_le;simp;omega) (λj i=>?_) ⟨c,d⟩;obtain h|h:=AA.1 i
 .exact yq (f.subset h)
 .exact yk (zv h)
end
end Go.Am
end
