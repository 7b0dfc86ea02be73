/- Lemmas -/
import Derived.Test.YtjbidlnjecppfaaGreatDoorS3
set_option linter.all false
open Nat renaming div→zy,mod→zl,shiftRight→yl,add→w3,succ→vh
open Go.Am.Ad renaming func→zx,int→zs,slnil→zc,agg→z3,tuple→yt,ptr→y9
open Go.Fn renaming func→zu
open Bool renaming false→zt,true→zb
open Go.Am.Pw renaming int→zr,str→zj,append→wx,conv→w6,len→vl,ext→ve
open Option renaming some→zn,none→yz
open Go.Am.IT renaming cells→z1,ret→z8,fail→x1,load→x2,loop→x4,same→wi,store→wf,call→vq,alloc→vg
open Go.Am.Dz renaming ret→z7,normal→yu,exit→y2
open Go.IntKind renaming i32→xu,u8→x0
attribute[local simp]Go.Am.Ac Go.Am.By Go.Am.abS
namespace Go.Am
open Go
def nthV:List Ad->Nat->Ad
 |[],_=> .nilIface
 |x::_,0=>x
 |_::l,n+1=>nthV l n
def nthP:List Pw->Nat->Pw
 |[],_=> .K8
 |x::_,0=>x
 |_::l,n+1=>nthP l n
def nthM:List YX->Nat->YX
 |[],_=> .Ĳ
 |x::_,0=>x
 |_::l,n+1=>nthM l n
def nthL:List (List Ad)->Nat->List Ad
 |[],_=>[]
 |x::_,0=>x
 |_::l,n+1=>nthL l n
def allG(G:Nat->Ad):Nat->Nat->List Ad
 |0,_=>[]
 |n+1,i=>G i::allG G n (vh i)
def dL{T:Type}(n:Nat)(k:Nat->Nat->T):T:=match zl n 2 with
 |0=>k (zl (zy n 2) 256) (zy n 512)
 |_=>k (zl (zy n 2) 16384) (zy n 32768)
section
variable(z:Nat->Ad)(d:Nat->Pw)(zm:Nat->YX)(G:List Ad->Nat->Ad)(b:(List Ad->IT)->(List Ad->IT)->Dz->List Ad->IT)(lk:Nat->(List Ad->IT)->(List Ad->IT)->Dz->List Ad->IT)(MX:Dz->IT->(Nat->IT)->IT->IT)(IX:Nat->Nat->IT->IT->IT)
def dV(e:List Ad)(c:List (List Ad)):Nat->Nat->Nat->(List Ad->Nat->IT)->IT
 |0,_,_,_=> x1
 |_+1,0,n,k=>k [] n
 |u+1,w+1,n,k=>match zl n 4 with
  |0=>dV e c u w (zy n 4) λl r=>k (nthV e 0::l) r
  |1=>dV e c u w (zy n 16) λl r=>k (z (w3 24 (zl (zy n 4) 4))::l) r
  |2=>match zl (zy n 4) 8 with
   |7=>dV e c u w (zy n 2048) λl r=>k (z (w3 7 (zl (zy n 32) 64))::l) r
   |j=>dV e c u w (zy n 32) λl r=>k (z j::l) r
  |_=>match zl (zy n 4) 2 with
   |0=>dV e c u w (zy n 256) λl r=>k (G (nthL c (zl (zy n 8) 2)) (zl (zy n 16) 16)::l) r
   |_=>match zl (zy n 8) 4 with
    |0=>dV e c u w (zy n 2048) λl r=>k (nthV e (vh (zl (zy n 32) 64))::l) r
    |1=>dV e c u w (zy n 4096) λl r=>k (G (nthL c (w3 2 (zl (zy n 32) 8))) (zl (zy n 256) 16)::l) r
    |2=>match zl (zy n 32) 4 with
     |0=>dV e c u (zl (zy n 128) 16) (zy n 2048) λl r=>dV e c u w r λa b=>k (z3 l::a) b
     |1=>dV e c u (zl (zy n 128) 16) (zy n 2048) λl r=>dV e c u w r λa b=>k (yt l::a) b
     |2=>dV e c u (zl (zy n 128) 16) (zy n 2097152) λl r=>dV e c u w r λa b=>k (zx (zu (zl (zy n 2048) 1024)) [] l::a) b
     |_=>dV e c u (zl (zy n 128) 16) (zy n 2048) λl r=>dV e c u w r λa b=>k (.CO l::a) b
    |_=>dV e c u w (zy n 2048) λl r=>k (z3 (allG (G (nthL c (zl (zy n 32) 4))) (zl (zy n 128) 16) 0)::l) r
def dP(n:Nat)(k:Pw->Nat->Nat->IT):IT:=match zl n 16 with
 |0=>k (zr .eql) 2 (zy n 16)
 |1=>k (zj .eql) 2 (zy n 16)
 |2=>k (vl zt) 1 (zy n 16)
 |3=>k (.un .not) 1 (zy n 16)
 |4=>k (zr .lss) 2 (zy n 16)
 |5=>k (zr .add) 2 (zy n 16)
 |6=>k (.Df 1) (zl (zy n 16) 16) (zy n 256)
 |7=>k (zr .neq) 2 (zy n 16)
 |8=>k (zr .sub) 2 (zy n 16)
 |9=>k (.EM (zl (zy n 16) 16)) 2 (zy n 256)
 |10=>k (ve (zl (zy n 16) 4)) 1 (zy n 64)
 |11=>k (zr .geq) 2 (zy n 16)
 |12=>k (wx (zl (zy n 16) 16) (zl (zy n 256) 256)) 2 (zy n 65536)
 |13=>k (d (zl (zy n 16) 8)) (zl (zy n 128) 16) (zy n 2048)
 |14=>match zl (zy n 16) 16 with
  |0=>k (zr .gtr) 2 (zy n 256)
  |1=>k (zr .leq) 2 (zy n 256)
  |2=>k (vl zb) 1 (zy n 256)
  |3=>k (.peq zb) 2 (zy n 256)
  |4=>k (.peq zt) 2 (zy n 256)
  |5=>k .K8 1 (zy n 256)
  |6=>k .iU 2 (zy n 256)
  |7=>k (zj .add) 2 (zy n 256)
  |8=>k (zj .neq) 2 (zy n 256)
  |9=>k (w6 x0) 1 (zy n 256)
  |10=>k (w6 xu) 1 (zy n 256)
  |11=>k (zr .or) 2 (zy n 256)
  |12=>k (zr .and) 2 (zy n 256)
  |_=>k .aQ 1 (zy n 256)
 |_=>match zl (zy n 16) 2 with
  |0=>k (.Df (zl (zy n 32) 16)) (zl (zy n 512) 16) (zy n 8192)
  |_=>k (.Mo (zl (zy n 32) 16)) 1 (zy n 512)
def dK(n:Nat)(k:Nat->Nat->IT):IT:=match zl n 4 with
 |0=>k (zl (zy n 4) 1024) (zy n 4096)
 |1=>k (w3 100000 (zl (zy n 4) 1024)) (zy n 4096)
 |2=>k (w3 200000 (zl (zy n 4) 1024)) (zy n 4096)
 |_=>k (w3 300000 (zl (zy n 4) 1024)) (zy n 4096)
def dC(D:Nat->List Ad->Dz->IT)(n:Nat):Dz->List Ad->IT:=match zl n 4 with
 |0=>dL (zy n 4) λL m=>b (λv=>D m v yu) (λv=>D (yl m L) v yu)
 |1=>dL (zy n 64) λL m=>lk (zl (zy n 4) 16) (λv=>D m v yu) (λv=>D (yl m L) v yu)
 |_=>λy v=>D (zy n 4) v y
def dT:Nat->Nat->List Ad->List (List Ad)->Dz->Nat->IT
 |0,_,_,_,_,_=> x1
 |u+1,n,e,c,x,i=>match zl n 8 with
  |0=>dV z G e c u 1 (zy n 8) λl _=> z8 z7 l
  |1=>dV z G e c u (zl (zy n 8192) 8) (zy n 65536) λl r=> vq (zl (zy n 8) 1024) l λv=>dT u r (v::e) c x i
  |2=>dV z G e c u 1 (zy n 8) λl r=>dL r λL m=> .Hs (nthV l 0) (dT u m e c x i) (dT u (yl m L) e c x i)
  |3=>dP d (zy n 8) λp w m=>dV z G e c u w m λl r=> .op p l λv=>dT u r (v::e) c x i
  |4=>dV z G e c u 1 (zy n 256) λl r=> .op .K8 [nthV l 0] λa=> .op (.Mo (zl (zy n 8) 32)) [a] λy=> x2 yz y λv=>dT u r (v::y::a::e) c x i
  |5=>dV z G e c u 1 (zy n 256) λl r=> .op .K8 [nthV l 0] λa=> .op (.Mo (zl (zy n 8) 32)) [a] λv=>dT u r (v::a::e) c x i
  |6=>dV z G e c u 1 (zy n 128) λl r=> z1 (zl (zy n 8) 16) (nthV l 0) λv=>dT u r e (v::c) x i
  |_=>match zl (zy n 8) 32 with
   |0=>dV z G e c u (zl (zy n 256) 16) (zy n 4096) λl _=> z8 yu l
   |1=>dV z G e c u (zl (zy n 4096) 16) (zy n 65536) λl _=> z8 (y2 (zl (zy n 256) 16)) l
   |2=>dV z G e c u 1 (zy n 256) λl r=> x2 yz (nthV l 0) λv=>dT u r (v::e) c x i
   |3=>dV z G e c u 1 (zy n 4096) λl r=> x2 (zn (zl (zy n 256) 16)) (nthV l 0) λv=>dT u r (v::e) c x i
   |4=>dV z G e c u 2 (zy n 4096) λl r=> wf (zl (zy n 256) 16) (nthV l 0) (nthV l 1) (dT u r e c x i)
   |5=>dV z G e c u 1 (zy n 16384) λl r=> vg (zl (zy n 256) 64) (nthV l 0) λv=>dT u r (v::e) c x i
   |6=>dK (zy n 256) λf m=>dV z G e c u (zl m 16) (zy m 16) λl r=> vq f l λv=>dT u r (v::e) c x i
   |7=>dV z G e c u (zl (zy n 262144) 16) (zy n 4194304) λl r=> .BG (zl (zy n 256) 1024) l λv=>dT u r (v::e) c x i
   |8=>dV z G e c u (vh (zl (zy n 256) 16)) (zy n 4096) λl r=> .Mp (nthV l 0) l.tail λv=>dT u r (v::e) c x i
   |9=>dK (zy n 256) λf m=>dV z G e c u (zl m 16) (zy m 16) λl r=>dL r λL m=> x4 f l (λv=>dT u m e (v::c) x i) (dC b lk (λq v y=>dT u q e (v::c) y i) (yl m L))
   |10=>dK (zy n 256) λf r=>dL r λL m=> .Qp f (dT u m e c x i) (dC b lk (λq v y=>dT u q e (v::c) y i) (yl m L))
   |11=>dV z G e c u 2 (zy n 256) λl r=> wi (nthV l 0) (nthV l 1) (dT u r e c x i)
   |12=> x1
   |13=>dV z G e c u 1 (zy n 8192) λl r=> .op (.Mo (zl (zy n 256) 32)) [nthV l 0] λy=> x2 yz y λv=>dT u r (v::y::e) c x i
   |14=>dV z G e c u (zl (zy n 4096) 16) (zy n 65536) λl r=> .mem (zm (zl (zy n 256) 16)) l λv=>dT u r (v::e) c x i
   |15=>dV z G e c u 3 (zy n 256) λl r=> .Me (nthV l 0) (nthV l 1) (nthV l 2) (dT u r e c x i)
   |16=>dV z G e c u 1 (zy n 256) λl r=> .RL (nthV l 0) λv=>dT u r (v::e) c x i
   |17=>dV z G e c u 1 (zy n 4096) λl r=> .RR (zl (zy n 256) 16) (nthV l 0) (dT u r e c x i)
   |18=>dV z G e c u 2 (zy n 1048576) λl r=> .Kh (zl (zy n 256) 16) (zl (zy n 4096) 256) (nthV l 0) (nthV l 1) λv=>dT u r (v::e) c x i
   |19=>dV z G e c u 2 (zy n 1048576) λl r=> .M3 (zl (zy n 256) 16) (zl (zy n 4096) 256) (nthV l 0) (nthV l 1) λv=>dT u r (v::e) c x i
   |20=> .RQ λv=>dT u (zy n 256) (v::e) c x i
   |21=>dV z G e c u (zl (zy n 256) 16) (zy n 4096) λl _=> z8 x l
   |22=>dV z G e c u (zl (zy n 256) 16) (zy n 4096) λl _=> z8 (y2 i) l
   |23=>dL (zy n 256) λL r=>dL r λM m=>MX x (dT u m e c x i) (λj=>dT u (yl m L) e c x j) (dT u (yl m M) e c x i)
   |24=>dL (zy n 4096) λL m=>IX i (zl (zy n 256) 16) (dT u m e c x i) (dT u (yl m L) e c x i)
   |25=>dV z G e c u (zl (zy n 256) 16) (zy n 4096) λl _=> z8 z7 l
   |_=> x1
end
def dA(n:Nat)(z:Nat->Ad)(a:Nat->Pw)(b:Nat->YX)(G:List Ad->Nat->Ad)(c:(List Ad->IT)->(List Ad->IT)->Dz->List Ad->IT)(lk:Nat->(List Ad->IT)->(List Ad->IT)->Dz->List Ad->IT)(d:Dz->IT->(Nat->IT)->IT->IT)(e:Nat->Nat->IT->IT->IT):IT:=dT z a b G c lk d e 4000 n [] [] yu 0
def wayX(x:Dz)(A:IT)(E:Nat->IT)(R:IT):IT:=match x with
 | yu=>A
 | y2 i=>E i
 | z7=>R
def wayI(i k:Nat)(A B:IT):IT:=if i=k then A else B
def apV:List Ad->List Ad->List Ad
 |[],k=>k
 |x::l,k=>x::apV l k
section
variable(l:List (Nat×Nat))
def zT:Pw:= .Fc [I 0,S [],ff,S [],ff,S [],ff,ff,zc,ff,S [],zs xu 0] l
def zI:Pw:= .Fc [I 0,I 0,S [],ff] l
def zN:Pw:= .Fc [I 0,I 0,zc,I 0,I 0,S [],zc,S [],S [],S [],ff,I 0,I 0] l
def zA:Pw:= .Fc [I 0,S [],zc] l
end
def KO(l k:List Ad)(i:Nat):Ad:=nthV (ff::I 0:: yt []::I 1::tt:: zc::I 3::I 2::I 4:: y9 yz::I (-1)::I 9::I 7::I 6::I 5::S []::I 8::I 17::I 13::I 18::I 10::I 12::I 14::I 15::apV l k) i
abbrev bv:=(Nat->Ad)->(Nat->Pw)->(Nat->YX)->(List Ad->Nat->Ad)->((List Ad->IT)->(List Ad->IT)->Dz->List Ad->IT)->(Nat->(List Ad->IT)->(List Ad->IT)->Dz->List Ad->IT)->(Dz->IT->(Nat->IT)->IT->IT)->(Nat->Nat->IT->IT->IT)->IT
def cl(n:Nat)(y:bv):=∀z a b G c lk M J,dA n z a b G c lk M J=y z a b G c lk M J
def ap:List UInt8->Nat->Nat
 |[],n=>n
 |c::l,n=>ap l (.add (.mul n 78) (c.toNat.sub (bif c.toNat.blt 92 then 48 else 49)))
def bm(s:String):=ap (al s) 0
def rd(f:FuncId)(l:List Ad)(s:String)(k:List Ad:=[])(o:List Pw:=[])(m:List YX:=[]){y:bv}{w:IT}{n:Nat}(hn:bm s=n\/True:=by left;conv=>lhs;reduce)(e:cl n y:=by intro z a b G c lk M J;conv=>lhs;reduce)(d:y (KO l k) (nthP o) (nthM m) g nx lx wayX wayI=w:=by conv=>lhs;(try dsimp only[KO,wayX,wayI,nthV,nthP,nthM,apV,zT,zI,zN,zA]))(h:Cf cx f l=dA n (KO l k) (nthP o) (nthM m) g nx lx wayX wayI:=by kernel_rfl):Cf cx f l=w:=h.trans ((e ..).trans d)
def E5(f:FuncId)(s:String)(k:List Ad:=[])(o:List Pw:=[])(m:List YX:=[]){y:bv}{w:Ad->IT}{n:Nat}(hn:bm s=n\/True:=by left;conv=>lhs;reduce)(e:cl n y:=by intro z a b G c lk M J;conv=>lhs;reduce)(d:∀p,y (KO [p] k) (nthP o) (nthM m) g nx lx wayX wayI=w p:=by intro p;conv=>lhs;(try dsimp only[KO,wayX,wayI,nthV,nthP,nthM,apV,zT,zI,zN,zA]))(h:∀p,Cf cx f [p]=dA n (KO [p] k) (nthP o) (nthM m) g nx lx wayX wayI:=by intro p;kernel_rfl):∀p,Cf cx f [p]=w p:=λp=>(h p).trans ((e ..).trans (d p))
def DN(f:FuncId)(s:String)(k:List Ad:=[])(o:List Pw:=[])(m:List YX:=[]){y:bv}{w:Ad->Ad->IT}{n:Nat}(hn:bm s=n\/True:=by left;conv=>lhs;reduce)(e:cl n y:=by intro z a b G c lk M J;conv=>lhs;reduce)(d:∀p q,y (KO [p,q] k) (nthP o) (nthM m) g nx lx wayX wayI=w p q:=by intro p q;conv=>lhs;(try dsimp only[KO,wayX,wayI,nthV,nthP,nthM,apV,zT,zI,zN,zA]))(h:∀p q,Cf cx f [p,q]=dA n (KO [p,q] k) (nthP o) (nthM m) g nx lx wayX wayI:=by intro p q;kernel_rfl):∀p q,Cf cx f [p,q]=w p q:=λp q=>(h p q).trans ((e ..).trans (d p q))
def NH(f:FuncId)(s:String)(k:List Ad:=[])(o:List Pw:=[])(m:List YX:=[]){y:bv}{w:Ad->Ad->Ad->IT}{n:Nat}(hn:bm s=n\/True:=by left;conv=>lhs;reduce)(e:cl n y:=by intro z a b G c lk M J;conv=>lhs;reduce)(d:∀p q r,y (KO [p,q,r] k) (nthP o) (nthM m) g nx lx wayX wayI=w p q r:=by intro p q r;conv=>lhs;(try dsimp only[KO,wayX,wayI,nthV,nthP,nthM,apV,zT,zI,zN,zA]))(h:∀p q r,Cf cx f [p,q,r]=dA n (KO [p,q,r] k) (nthP o) (nthM m) g nx lx wayX wayI:=by intro p q r;kernel_rfl):∀p q r,Cf cx f [p,q,r]=w p q r:=λp q r=>(h p q r).trans ((e ..).trans (d p q r))
def rd4(f:FuncId)(s:String)(k:List Ad:=[])(o:List Pw:=[])(m:List YX:=[]){y:bv}{w:Ad->Ad->Ad->Ad->IT}{n:Nat}(hn:bm s=n\/True:=by left;conv=>lhs;reduce)(e:cl n y:=by intro z a b G c lk M J;conv=>lhs;reduce)(d:∀p q r u,y (KO [p,q,r,u] k) (nthP o) (nthM m) g nx lx wayX wayI=w p q r u:=by intro p q r u;conv=>lhs;(try dsimp only[KO,wayX,wayI,nthV,nthP,nthM,apV,zT,zI,zN,zA]))(h:∀p q r u,Cf cx f [p,q,r,u]=dA n (KO [p,q,r,u] k) (nthP o) (nthM m) g nx lx wayX wayI:=by intro p q r u;kernel_rfl):∀p q r u,Cf cx f [p,q,r,u]=w p q r u:=λp q r u=>(h p q r u).trans ((e ..).trans (d p q r u))
end Go.Am
set_option maxHeartbeats 0
set_option maxRecDepth 100000
namespace Go.Am
open Go
def aNu:=NH 3 "^E|S?PVTo8Im|>WGQH:Y6IKICzRSZ=B7MeREL_n;2DFaCLq6|?qo;lLV_reoHwNShCp8HS;Ky|9hJTHE`GSQ:{Y|vv@UlVM8dk:ZG}X]4M}9eMgsjD3T4StY4t|aw]Xb_UJCq76tXl5bRA`d<VozXy^~uW[uXH<;u[to>I8Vlz1|UVraoj?dy:EM?uJ" [I 40] [.beq true]
def aNv:=DN 4 "10O^L{xW?d0nQo:S0vPW2_" [I 40]
def aNw:=E5 6 "1WZ~1w>R2i]Ya=YEQVy??ViU9;ear]RjmAw;nnQtFhV4r6iw" [I 60,I 100,I 200]
def aNx:=DN 7 "8~n03j[0nV2@crJplk[5i^:d_jDN[=n1F|rTJxJPYKw4S?{kMFFPcW:sOMG[oPH]}P^Y>C}k`MrJFLJExFd}nilhAbynYAwX<jLe}nXsd;w:{[{AyGafPqEq" [] [.geq true [.i,.i,.s,.b]]
def SI:=DN 8 "6mYO_pzdxvMABWmdL?~1q8?<q|fm_n|_P;Z6SVTYdAhgyhWDGRqZEX9FZbzQ3=s<jU@yWHuzZ02oJVkB=zksMyfbg^`hTEyzrmH@4vR?tz<m:^C7lGD[40;nkN;wHAv?8}]bId3C:IQSC@"
def aAy:=DN 9 "6mYO_rLY?lj_E|Sh}FH>~o~x5LkoXDgerfm6gk?~_zPvg|]>C9J`lAIRfL?j]7lxsEj0}^j4=0Y2z<v5moe02C<orZZxTyKv624TSA|YFS_;l`z3dtsmGOFcBwyG49h;|kM6a8gvc0a>xD"
def aJx:=DN 10 "ElAMt:bCjgFL|ye=;E__nje`}epF1UY"
def aJy:=DN 11 "49{obrTzL79?wFsCuMBx4O@ZJ_M8oIkwOB|qDJ?Fh;y}FqsvO0[u3rKEk1EbJto}i>q^7p~vI3Lgc8X^D]Q8HPR6WoU>yWG[=]0Cf" [I 60,I 200]
def aJz:=E5 12 "1KM3h~Fg}jw]xjM;i" [I 60]
def aAz:=DN 13 "1O_FOzugB>N~J`DDrI<VQzqlh"
def aAA:=E5 14 "2X=cELcVO" [] [zT [(0,1),(11,1)]]
def aAB:=E5 15 "2X=cEDxDx" [] [zT [(0,1),(1,1)]]
def aAC:=E5 16 "356u_Gw[" [] [zT [(0,1),(1,1)]]
def aJA:=E5 17 "12C5A7y`9=?CHz6Msf1n96G]Rzg9j0|9a7:IoKCbE~ER~:LK:1x3^I1uD2tvSoAeuiaRLG]9`5ZfH@j4Wyzm}Yb" [I 20,I 400]
def aAD:=E5 18 "1qK}D>4lg_Q~EioDvRDozXnF0Hfsw"
def aAE:=E5 19 "1qLiZ5OZL0;7^mO_hJjUd<|nx{;ms"
def GR:=DN 20 "4f9JAahs~Z^i7fikwCV}HyBUT;4FoVVa5|<Yv4NXE;=hnoHKy{gOVl[7yJ60P4}:bwAN[N3W3wD>VxDK<MiryI7dt`qz3d`<uInXIK[ldnrl8jx[r~yV`<]X:]rIv|>=ToC[8ggYbSNirdG@CZ`NwZkv<V2^mDJTcGFa8ouT35NLXtRW]?Q24bd_lb]s^bGA`q5?{5kt^_P@:oTjY>hp;|q6pUN}_b3pH0}Bx0P{Agx0@iaHBnB8E2zMER7sNCjWVT`m4=jNQmD5YLT^k3N20Rc?Big>=bGtm0FEx01^_t]<xHs;AV4M]h`XofxudVAnEXwOE07EOloYPBgMMdQs[p=SLB[QkQbnx<HTeHaORha|o5OJBc6i1~ixT<G4TaLoRW7pI]6Ir[:roBL:hMYV2x^Gyl}eZuHD~b:F8HAsUEafF_M0ee>sBmKZZ25}]IccjBI4DEiZ" [I 11,I 16,I 19,I 20,I 21,I 22,I 23,I 24] [zI [(0,1)],zI []]
def GS:=DN 21 "Kz?e_a}OjW}S0<U1VNla>f>jnN~?GPQ66C_J_?cUeYgSl6Qd==1CF9XaendYi0Mppj6hHmC4^{3nnF^I<k7=@i}t0EH}X|2iAafUol0IfsPH8}~oFCIM[Y4r61RD7>=cy_jwie_XxBZbs<>MnFsgrR9=h>AmgvitLT5x?l2yIHtQMgxpC:c3o|tBarP@zW8t1V]7m{30PI=IY^4NXP0cIlGbMr9]kBH@V:XV29QQWf>>e{l]F23}H[~MYkaWEQMh=6Nsr<:CeJ|Tb27Pr5p4_mrjp:keCr@{xYmoc|{>fCm{RujqLtFX7izK]T@~]v=BeMiCkS=nAW6Rvdfl5IRlym8pWmKU1|JKVi|w3nIDoYy8puVPK37sBs0yb8oCdRsZ1`n[taIYG}7;;ILana~oxO`yRPPqE:w~0d?MRIdLt7h~rGH64[n3^>=eD[<xuU{xVg~weu_O45q|W~i`Yz^SU{}fucZ" [I 11,I 16,I 19,I 20,I 21,I 22,I 23,I 24] [zI [(0,1)],zI [],zA []]
def nr:=E5 22 "<HkIS|}2rBq7[]xaTnqPXZt6XhpBV"
def eV:=DN 23 "1dL=_Z7t2k:>gyckfKY~HgJ?aNs_PMx4oy|=4Zk0pYl0" [] [] [.I_ .nilFunc true]
def SJ:=DN 24 "25>bQf5XZpBh>ZALe_`jGeo8GGCZg;et[}~qHkaAh6FaK9SwAEQ_DAa8z;4>Wm}jJ5;6qV[e]?1|R[]Ec>Z;zhU|vTtGkNewpbYlV6R7lXSC>gIT<~E^ncQh`rj67W`SX@uRiEJ];D}u69]dRMsg"
def QQ:=DN 25 "1W>LD6X}nuHUYcc8uAn<7uzj}=U`PhnGiJI]4eT9JC9TIW3kcqH:h=r4pCU8?_Qqut3xeu=j2dA]7W{DXV" [S a3e,S a2y]
def Pm:=DN 26 "=26AbrE7nY>JPvGiwiheV8fYEtfV[[7zX5EAU>rq~xR3pUcA|2Evxv=42GInJ9MvoGD2rJ4defUY`:U8cwaOh3dlg2WOCxDTT<ceb>}G_hT" [S a3e,S a2y,S a2I]
def HI:=DN 27 "8yfs8}y~:NBlz?2nmi~@fFfOafh]@|A8yYvfo@_^c3T;U:]FS3S4a]t~@;XZpUwY|P;ncm|L2KaH5=oj?~w3FTw=af1u]p2r=pTkvG^HCqIr>Ps<IBWHR}wRu?K@Frl=Po~P97Sjs]h6mYDj`[w4hVDL`@@C5PL2]Ad[KFTsO3omeYNA3swkRkVaF_^RSV<~wEO^da0ynl|IpYovyB|yAMarszeG9?a6RdQNnprDEL[pB2?I8z5n~MPhhrE4" [S a2I,S a3O,S a2y,S a23,S a2S,S a3A,S a2Z,S a2J,S a2z]
def Ny:=DN 28 "Vpas4{a1ItXX@0=FgYOB4@5g;oAq7fnTp05iZ=ljui{KX=S]H6Ghq{FdUV2DZh6EzC5QG7`GiR`eE9}@EJd~usNivxXVOX4KnyD~uI;lTIz:`m5Aclyk[f4" [S a3H,S a4y,S a2y,S a2J,S a2N]
def LX:=DN 29 "1gWHm=}]Y<t2ApUYiI~FfxyaN3glPRS6cuJ3MAO[a86Ia{IZxG{1Ct06g}:Be[2lFkS=UKwce76<B6<pFh5wNKYcbhi~nA=nNDf6|cV`|aEbHuj]@f}C}6r_{O9244G4h<su=m[5R1[R=sH=HmkBvNYp}AvIsdLzKbN2:" [S a2I,S a39,S a2y,S a2B,S a2D,I 20,S a2w,.func (.func 27) [] [],S a2z]
def ì(p q:Ad):IT:=
 .cells 12 q λa=>.ca 97 [p,a12 a] λb=>.nt [b] λc=>.Hs c (.rr [ff]) (.op (.Fc [.ptr none,I 0,S [],ff,S [],ff,S [],ff,ff,.slnil,ff,S [],.int .i32 0] [(0,1),(1,12)]) [p,a12 a] λd=>.alloc 13 d λe=>.ie [g a 0,I 5] λf=>.Hs f (.ca 112 [e] λ_=>.rr [ff]) (.ie [g a 0,I 4] λh=>.Hs h (.ca 62 [p,g a 10,I 0] λ_=>.rr [ff]) (.ie [g a 0,I 6] λj=>.Hs j (.RM p 6 λ_ _ k=>.ln [k] λm=>.ig [m,I 0] λn=>.Hs n (.ca 32 [p,a12 a] λo=>.rr [o]) (.ca 71 [p] λ_=>.rr [ff])) (.ie [g a 0,I 2] λs=>.Hs s (.ca 113 [] λu=>.N7 .nilFunc false u (g a 1) λw=>.op (.GH true .fn) [w,.nilFunc] λy=>.Hs y (.Mp w [e] λz=>.rr [z]) (.ca 65 [p] λ_=>.ca 57 [p,a12 a] λ_=>.rr [ff])) (.ie [g a 0,I 3] λa0=>.Hs a0 (.ca 114 [] λa1=>.N7 .nilFunc false a1 (g a 1) λa2=>.op (.GH true .fn) [a2,.nilFunc] λa5=>.Hs a5 (.Mp a2 [e] λa7=>.rr [a7]) (.ca 66 [p,g a 1] λ_=>.rr [ff])) (.rr [ff]))))))
def LY:Tq2 cx 30 ì:=λ_ _=>Dv
def UL:=DN 31 "k{KBeA>4pY}JGU{wo:kPiMONQQOJ;cj{Ar~Us<3Ziw>s;ERSTSYt6Xq7q]{zq"
def KI:=DN 32 "3rhVmw8T:jSb_<rW73}?n6qTIwBaP8;sZz3tw988g}vuKno[;VKKsEo1<Y9@VvBHfL_o:Sg0R[EYDzP;Us9Ib|Ke2o<d<cJ`Qz5dwPky;dCEXFJeGarV~R?Y|4{5EItyGoqG~_h;tCMT_}4HyVypM4SVzBpUGj<IK<BL[8z<SBJPGq^URtO8F9Z6" [S a2w,S a2z,S a2V,S a4h,S [116,114],S a4F]
def nu:=DN 33 "1MlQ[v6Ue]HrHn>kb=jEA5V1uqnFV[P}{G}5XS175aRL:J<R=kf~]wuFqBfqSOZZ9{ev2HVPKqTRFi^=KNn7||q`}`bdh}T?vp6}@IdZ=8FYI`Y1O|X"
def XM:=DN 34 "3QWEsVCIlZ:>bA2U@26<wvc_IKnI4RC`OQ~iT6VMTeWfWr1l{}sZlmFc@N>j=2TI9SC9KdoSSOksAT4sY7AZ5_]e=nB]>lN:95J?r@u8LvUV{DRwvpE{iw" [] [zN [(0,1),(5,1),(8,1),(9,1)]]
def UM:=DN 35 "13hGpDQ`[sKf;JT`6KvK0XkCH9AX9hv7sS^B9IQ{^H3d@?M:gMbFZt6]13fL_|x3NeuIHQNqyDS4Onk6sqC5|YpH9]0n1:z^szR9`]:" [S a2y,S a3e]
def SK:=DN 36 "1[a}TggPKUoP?pJ|cVszj:4CIEEbijIgwf4drXqH16NtVnd@aU59g2>yTw5~JJUrU|d86iSL?:Y_T|knZn>cLhC6@88B1=<`tt}@yVLU4joZ9UjD^]RJk]M=;<C}Rzm5sPr<5sWu" [S a2y,S a2I,S a3e]
def I7:=DN 37 "2<v{@0LoswBL2kK?Cd]<vXRs?ZpO6SgQprQV~tKj8|yf0vCBKOVG{3F9T_VRZ3`c?6WvuUzzscwmXQ{bBSKzieM:A?Hcx=B3<V]f160fXXeX[zjO:Cjd7=3JB;1Ab:;~jWfsiUqp0zTQ9NbzL[qag1?9vb}^a]sqcn{zLzF9A1>29s;}MQB{;3{kE;^Haj3[wbV~JH24E7YK]nqoxyHe{nCf2dCap;^_Z_9K6LH|}N:JgHtDlCgJu2>zJh01u2qZWmK;Y:2ZrC|e~XQnM9gjF>" [S a2y,S a23,S a2S,S a3A,S a2Z,S a2J,S a2I,S a2z,S a4g] [zA []]
def Pn:=DN 38 "BYF0htO;:wMxwGPgEk~_MIzzr;YAOuA;wN4l{28UmfwhCu;r_OUMG3v3GK`Ql=zaAlpqTC_XE]{~=m}AKjyyxY?yZfY<}I;0:CT8Ou=M^mno{70r5`vo|m4^qQWZG9r?[yS8=y" [S a2y,S a2J,S a2N,S a3H,S [98,114]]
def Nz:=DN 39 "3>]uV9MksJxhIBpQQ8FwN>FI2HqY>w2`NcQx7lzdv_H5i`C;B:}4<nYJ9kdGOuhNtxwVble|PwMdTw=<YKwWdRyN8|lAizwzYbmM21KKfW8f2JeRlqkpno1k2;oC8It|p_d9Q`dJ]s2AVi683x:V;a0:rF13Wa9S9Ar|MId8JWzEC=S3:[XdHMkP9]cn8>W4Ex6Wq|z~8~pae784|~OC`=vRynYHdfSpQ~IlwdtOcF" [S a2y,S a2B,S a2D,I 20,S a2w,S a2I,S a2z,S a4g] [zI [(0,1),(1,1),(2,1)]]
def MI:=DN 40 "r|MZnkqwi`bY48o0F]QjM_EM1e<DCD[t0I=Tw7o9~;~<EXMVIH~ioG^q>DLv2}1}Rv7zn6s:J]Q2v5Kv{iz8s@T7OO5R|^kV=^6JYIC{v`|VcR9ojh_P{uDwS?2;bayJ>RwN90" [.int .i32 0,S a2w,S a2z]
def pF:=DN 41 "G6T=MN{yl>eE{8{uc1C97<GK|}0`O<HWB~Em5[lcrAUQ2P?VRDCh;IHoJY_}W6hB>"
def LZ:=DN 42 "OfnYH9SW:`ttIQe{ly6llRAzz|ut5{zCrRh]>O|n]P<QY84dAW4uiwFt}S^|8vL`Cy=xrlJYimnPAwpR1^N8W:rAfftTQ?:1a>?jy^dAJe}<ebfyxXZVFDdBo?J9Q=tG6ixs1d_br}mZgyTB|G?f~C{2tC`I3j{[>61QMUj2<xVTP;g^adOR]keN3N=7xelN:gW<2E_gvL_dEeo8VfVCxptyN>VPr}CYRjUV}je@Bg5_fA8fHsGiBsxevd`oh|rnG}eN`ZPoRHdw3rkwT@FrOTRJvewO52Lu7d6Rd}C|qq`TGzw47iV;P]n^0@>1=ryn}f@s" [S a2w,S a2z,S a2V,S a4h,S [116,114],S a4F]
def aJB:=DN 43 "h:fkRip[WjsZMG|YrRHtSp`Cf9OKn>G@DxZ?1z_dZ^VLmx93M@spus;z>75_aO2s?U3PRH_rY>|3ynAqCWV|gNVYqmhWhGaj_GZRh4sf28l9dbn^:K{[TjU{;uKAlhIt=4`wj]G6C7TrqHXgb{M]iA49LpVSx2_f|HvHPJgAQRj0" [] [.beq false]
def t44(p:Ad):IT:=
 .ca 138 [p] λa=>.nt [a] λb=>.Hs b (.op (.Fc [I 0,I 0,.slnil,.slnil,.slnil,I 0,I 0,ff,ff,S [],ff,I 0,ff] []) [] λc=>.cells 13 c λd=>.rr [a13 d]) (.RM p 4 λ_ e f=>.RM p 5 λ_ h j=>.RM p 6 λ_ _ k=>.RM p 7 λ_ m n=>.RM p 8 λ_ o s=>.RM p 14 λ_ u w=>.RM p 15 λ_ y z=>.RM p 16 λ_ a0 a1=>.RM p 17 λ_ a2 a5=>.RM p 18 λ_ a7 a8=>.RM p 19 λ_ b0 b1=>.ca 110 [k] λb2=>.ld b0 λb3=>.same b1 b3 (.ld a7 λb4=>.same a8 b4 (.ld a2 λb5=>.same a5 b5 (.ld a0 λb6=>.same a1 b6 (.ld y λb7=>.same z b7 (.ld u λb8=>.same w b8 (.ld o λb9=>.same s b9 (.ld m λc0=>.same n c0 (.ld h λc1=>.same j c1 (.ld e λc2=>.same f c2 (.op (.Fc [I 0,I 0,.slnil,.slnil,.slnil,I 0,I 0,ff,ff,S [],ff,I 0,ff] [(0,1),(1,1),(2,1),(5,1),(6,1),(7,1),(8,1),(9,1),(10,1),(11,1),(12,1)]) [f,j,b2,n,s,w,z,a1,a5,a8,b1] λc4=>.cells 13 c4 λc5=>.fa p 2 λ_ c6=>.fl c6 0 λ_ c7=>.ln [c7] λc8=>.loop 5 [a13 c5,I 0] (λc9=>.cells 13 (g c9 0) λd0=>.il [g c9 1,c8] λd1=>.Hs d1 (.ea 4 [c7,g c9 1] λd2=>.load (some 4) d2 λd3=>.cells 4 d3 λd4=>.op (.Df 1) [g d4 0] λd5=>.Kh 1 8 (g d0 3) d5 λd6=>.cells 1 d6 λd7=>.ia [g c9 1,I 1] λd8=>.rn [.agg [g d0 0,g d0 1,g d0 2,g d7 0,g d0 4,g d0 5,g d0 6,g d0 7,g d0 8,g d0 9,g d0 10,g d0 11,g d0 12],d8]) (.rx 0 [a13 d0,g c9 1])) (λx d9=>.cells 13 (g d9 0) λe0=>match x with| .normal=>.fail| .exit i=>if i=0 then .fa p 3 λ_ e1=>.fl e1 0 λ_ e2=>.ln [e2] λe3=>.make 3 48 [I 0,S [],.slnil] e3 e3 λe4=>.cells 1 e4 λe5=>.fa p 3 λ_ e6=>.fl e6 0 λ_ e7=>.mem (.copy 3) [g e5 0,e7] λ_=>.ln [g e5 0] λe8=>.loop 12 [I 0] (λe9=>.il [g e9 0,e8] λf0=>.Hs f0 (.ea 3 [g e5 0,g e9 0] λf1=>.fl f1 2 λ_ f2=>.ca 139 [f2] λf3=>.ea 3 [g e5 0,g e9 0] λf4=>.op (.Mo 2) [f4] λf5=>.store 1 f5 f3 (.ia [g e9 0,I 1] λf6=>.rn [f6])) (.rx 2 [g e9 0])) (lx 2 (λf7=>.cells 13 (.agg [g e0 0,g e0 1,g e0 2,g e0 3,g e5 0,g e0 5,g e0 6,g e0 7,g e0 8,g e0 9,g e0 10,g e0 11,g e0 12]) λf8=>.rr [a13 f8]) λf7=>.rr [.agg [I 0,I 0,.slnil,.slnil,.slnil,I 0,I 0,ff,ff,S [],ff,I 0,ff]]) else .fail| .ret=>.rr [.agg [I 0,I 0,.slnil,.slnil,.slnil,I 0,I 0,ff,ff,S [],ff,I 0,ff]]))))))))))))
def aJC:Tq1 cx 44 t44:=λ_=>Dv
def aJD:=E5 45 ":~s6~2mXvAa}edaR_]gra54`T5RO0Yp{jEv[JLWsN<fVjO_s;:1TAfJl4vPZHU:Mf{~GYBCVDyWFfs]IGCahPTR}cNgak8~{:FFru2m6YX9C5Z_d?}sfU?Z7]D8gmLgsF=Oiu{QMx}loEgpuIlaN1h]CvUHTntQv<^N8mktkqvE;tp9u^PySdIlz;{Z<GrcwO]oYK@y`fTpgzJU1zhy2J;tHF}SdoRXtV=v?Gc=2QO_" [.agg [I 0,I 0,.slnil,.slnil,.slnil,I 0,I 0,ff,ff,S [],ff,I 0,ff]] [.Fc [I 0,I 0,.slnil,.slnil,.slnil,I 0,I 0,ff,ff,S [],ff,I 0,ff] [(0,1),(1,1),(2,1),(5,1),(6,1),(7,1),(8,1),(9,1),(10,1),(11,1),(12,1)],zA [(0,1),(1,1),(2,1)]]
def aJE:=DN 46 "2A:WnV<8>89OA4Q2:vv;mNBFf"
def aAF:=E5 47 "LoWPy[>o=wa[VKE2zW_PbL0ztV57H>jOlemp`uOF?WkhfSZBqklK[{h6<i2H90XQc:bjkFMkRa5DNh|rR~3[X;VzK[" [.tuple [.ptr none,ff]]
def nv:=rd 49 [] "CGN3" [] [.Fc [.slnil,.map none] []]
def pG:=DN 50 "?nRJQgFStwk5yiN@MPdh3U?ErSO~" [] [zN [(0,1),(10,1)]]
def pH:=NH 51 "YL|vZ|65QbH8tT8V}6_~agQB?:mJo^PoTmV>b?[::d};A`fa`xU=mzQhT6Q[Vk{8?MTC|;s6Wp>d{7[[6V^IVIjTx>{Gx3D46dE}gPTo>>1FK3Xd|qPgjAen35CUGdsScV" [S a2y,S a2z] [zT [(0,1),(1,1)],zI [(1,1),(2,1),(3,1)]]
def ny:=DN 52 "zbs`6CM8?rSvaC2RYr[}kT;EvSIUu>iOW" [] [.Fc [.ptr none,I 0,.slnil,.slnil,I 0,I 0,.slnil,I 0,I 0,ff,I 0,I 0,S [],ff,ff,ff,S [],ff,I 0,ff] [(0,1),(1,1),(4,1),(14,1)]]
def aJF:=DN 54 "gmMU`Pv01o" [] [zN [(0,1),(3,1),(10,1)]]
def aJG:=NH 55 "13kX;W<r3Uj>BMX0m?WF5:gT^57lrl>H1ky99];dm8t[=TnN?338>;gwNufu9|Fe9IIiPW3pP^iA5Y]][N29dbO3^[U3J~[?_I4e^kpZd02N<WFr_F49zxJEfl6Fvl6}Vb~zmM~WoSliVbQ9}tjbTjY`m=@" [S a2y,S a2z] [zI [(0,1),(1,1),(2,1)],zI [(1,1),(2,1),(3,1)]]
def aJH:=DN 56 ";>NlBMF4Rg>E2}Sxnh" [] [.Fc [.ptr none,I 0,.slnil,.slnil,I 0,I 0,.slnil,I 0,I 0,ff,I 0,I 0,S [],ff,ff,ff,S [],ff,I 0,ff] [(0,1),(1,1),(4,1),(14,1)]]
def nz:=DN 57 "3gKteIOP"
def aJI:=E5 58 "12`8_K5~E<8bKPD@>" [] [zT [(0,1),(1,1),(8,1)]]
def t59(p q r:Ad):IT:=
 .cells 12 q λa=>.ca 138 [p] λb=>.nt [b] λc=>.Hs c (.rr [I 0]) (.ca 163 [p,.func (.func 77) [p] [],a12 a,r] λd=>.rr [d])
def n_:Tq3 cx 59 t59:=λ_ _ _=>Dv
def oa:=DN 60 "4G:SY<2IfveGm^hK>[:wI<LM8MTZ" [] [zA [(0,1),(1,1),(2,1)]]
def XN:=DN 61 "DxTill]UU@JuZUsj4Q4z1X2g~iuF[^?Or_z=_ub45zZK1{8IWdA8~UBsM0SsH:sOvVu@n6C`|I`lEhL0<L[P}qX:_}=q{pHS7o~i4sML~vFO:3JrRKm3SA{jV=}UR2p~vqr3jTzql:urd5U0GwVOfKcp~Q=nK{0>~8IXo:Tk_H<McI_{y^j?zel?vS4dt["
def pI:=NH 62 "7ciM|A;C=cPcSVtICN2KihSlVsV{LHQflhIoRUEc@gPhP8YD25y|H>XIXHErzP|u{`17E^X|S3bB@Wfh@:LUg~x;;kC;C?Gm0H>>>IBTL@V97L{YD{3=hC"
def ob:=NH 63 "Taa]<|FldZL>inph;[K[E|=MX4<R5[N@F"
def pJ:=E5 64 ";=gpa@X]~8j5DZ4PXr|WGJ1j{Qak6Y]OajrRigM" [S [112]]
end Go.Am
