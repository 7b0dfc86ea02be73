/- Lemmas -/
import Derived.Test.YtjbidlnjecppfaaGreatDoorS3
set_option linter.all false
open Nat renaming div→zy,mod→zl,shiftRight→yl,add→w3,succ→vh
open Go.Am.Ad renaming func→zx,int→zs,slnil→zc,agg→z3,tuple→yt,ptr→y9
open Go.Fn renaming func→zu
open Bool renaming false→zt,true→zb
open Go.Am.Pw renaming int→zr,str→zj,append→wx,conv→w6,len→vl,ext→ve
open Option renaming some→zn,none→yz
open Go.Am.IT renaming cells→z1,ret→z8,fail→x1,load→x2,loop→x4,same→wi,store→wf,call→vq,alloc→vg
open Go.Am.Dz renaming ret→z7,normal→yu,exit→y2
open Go.IntKind renaming i32→xu,u8→x0
attribute[local simp]Go.Am.Ac Go.Am.By Go.Am.abS
namespace Go.Am
open Go
def nthV:List Ad->Nat->Ad
 |[],_=> .nilIface
 |x::_,0=>x
 |_::l,n+1=>nthV l n
def nthP:List Pw->Nat->Pw
 |[],_=> .K8
 |x::_,0=>x
 |_::l,n+1=>nthP l n
def nthM:List YX->Nat->YX
 |[],_=> .Ĳ
 |x::_,0=>x
 |_::l,n+1=>nthM l n
def nthL:List (List Ad)->Nat->List Ad
 |[],_=>[]
 |x::_,0=>x
 |_::l,n+1=>nthL l n
def allG(G:Nat->Ad):Nat->Nat->List Ad
 |0,_=>[]
 |n+1,i=>G i::allG G n (vh i)
def dL{T:Type}(n:Nat)(k:Nat->Nat->T):T:=match zl n 2 with
 |0=>k (zl (zy n 2) 256) (zy n 512)
 |_=>k (zl (zy n 2) 16384) (zy n 32768)
section
variable(z:Nat->Ad)(d:Nat->Pw)(zm:Nat->YX)(G:List Ad->Nat->Ad)(b:(List Ad->IT)->(List Ad->IT)->Dz->List Ad->IT)(lk:Nat->(List Ad->IT)->(List Ad->IT)->Dz->List Ad->IT)(MX:Dz->IT->(Nat->IT)->IT->IT)(IX:Nat->Nat->IT->IT->IT)
def dV(e:List Ad)(c:List (List Ad)):Nat->Nat->Nat->(List Ad->Nat->IT)->IT
 |0,_,_,_=> x1
 |_+1,0,n,k=>k [] n
 |u+1,w+1,n,k=>match zl n 4 with
  |0=>dV e c u w (zy n 4) λl r=>k (nthV e 0::l) r
  |1=>dV e c u w (zy n 16) λl r=>k (z (w3 24 (zl (zy n 4) 4))::l) r
  |2=>match zl (zy n 4) 8 with
   |7=>dV e c u w (zy n 2048) λl r=>k (z (w3 7 (zl (zy n 32) 64))::l) r
   |j=>dV e c u w (zy n 32) λl r=>k (z j::l) r
  |_=>match zl (zy n 4) 2 with
   |0=>dV e c u w (zy n 256) λl r=>k (G (nthL c (zl (zy n 8) 2)) (zl (zy n 16) 16)::l) r
   |_=>match zl (zy n 8) 4 with
    |0=>dV e c u w (zy n 2048) λl r=>k (nthV e (vh (zl (zy n 32) 64))::l) r
    |1=>dV e c u w (zy n 4096) λl r=>k (G (nthL c (w3 2 (zl (zy n 32) 8))) (zl (zy n 256) 16)::l) r
    |2=>match zl (zy n 32) 4 with
     |0=>dV e c u (zl (zy n 128) 16) (zy n 2048) λl r=>dV e c u w r λa b=>k (z3 l::a) b
     |1=>dV e c u (zl (zy n 128) 16) (zy n 2048) λl r=>dV e c u w r λa b=>k (yt l::a) b
     |2=>dV e c u (zl (zy n 128) 16) (zy n 2097152) λl r=>dV e c u w r λa b=>k (zx (zu (zl (zy n 2048) 1024)) [] l::a) b
     |_=>dV e c u (zl (zy n 128) 16) (zy n 2048) λl r=>dV e c u w r λa b=>k (.CO l::a) b
    |_=>dV e c u w (zy n 2048) λl r=>k (z3 (allG (G (nthL c (zl (zy n 32) 4))) (zl (zy n 128) 16) 0)::l) r
def dP(n:Nat)(k:Pw->Nat->Nat->IT):IT:=match zl n 16 with
 |0=>k (zr .eql) 2 (zy n 16)
 |1=>k (zj .eql) 2 (zy n 16)
 |2=>k (vl zt) 1 (zy n 16)
 |3=>k (.un .not) 1 (zy n 16)
 |4=>k (zr .lss) 2 (zy n 16)
 |5=>k (zr .add) 2 (zy n 16)
 |6=>k (.Df 1) (zl (zy n 16) 16) (zy n 256)
 |7=>k (zr .neq) 2 (zy n 16)
 |8=>k (zr .sub) 2 (zy n 16)
 |9=>k (.EM (zl (zy n 16) 16)) 2 (zy n 256)
 |10=>k (ve (zl (zy n 16) 4)) 1 (zy n 64)
 |11=>k (zr .geq) 2 (zy n 16)
 |12=>k (wx (zl (zy n 16) 16) (zl (zy n 256) 256)) 2 (zy n 65536)
 |13=>k (d (zl (zy n 16) 8)) (zl (zy n 128) 16) (zy n 2048)
 |14=>match zl (zy n 16) 16 with
  |0=>k (zr .gtr) 2 (zy n 256)
  |1=>k (zr .leq) 2 (zy n 256)
  |2=>k (vl zb) 1 (zy n 256)
  |3=>k (.peq zb) 2 (zy n 256)
  |4=>k (.peq zt) 2 (zy n 256)
  |5=>k .K8 1 (zy n 256)
  |6=>k .iU 2 (zy n 256)
  |7=>k (zj .add) 2 (zy n 256)
  |8=>k (zj .neq) 2 (zy n 256)
  |9=>k (w6 x0) 1 (zy n 256)
  |10=>k (w6 xu) 1 (zy n 256)
  |11=>k (zr .or) 2 (zy n 256)
  |12=>k (zr .and) 2 (zy n 256)
  |_=>k .aQ 1 (zy n 256)
 |_=>match zl (zy n 16) 2 with
  |0=>k (.Df (zl (zy n 32) 16)) (zl (zy n 512) 16) (zy n 8192)
  |_=>k (.Mo (zl (zy n 32) 16)) 1 (zy n 512)
def dK(n:Nat)(k:Nat->Nat->IT):IT:=match zl n 4 with
 |0=>k (zl (zy n 4) 1024) (zy n 4096)
 |1=>k (w3 100000 (zl (zy n 4) 1024)) (zy n 4096)
 |2=>k (w3 200000 (zl (zy n 4) 1024)) (zy n 4096)
 |_=>k (w3 300000 (zl (zy n 4) 1024)) (zy n 4096)
def dC(D:Nat->List Ad->Dz->IT)(n:Nat):Dz->List Ad->IT:=match zl n 4 with
 |0=>dL (zy n 4) λL m=>b (λv=>D m v yu) (λv=>D (yl m L) v yu)
 |1=>dL (zy n 64) λL m=>lk (zl (zy n 4) 16) (λv=>D m v yu) (λv=>D (yl m L) v yu)
 |_=>λy v=>D (zy n 4) v y
def dT:Nat->Nat->List Ad->List (List Ad)->Dz->Nat->IT
 |0,_,_,_,_,_=> x1
 |u+1,n,e,c,x,i=>match zl n 8 with
  |0=>dV z G e c u 1 (zy n 8) λl _=> z8 z7 l
  |1=>dV z G e c u (zl (zy n 8192) 8) (zy n 65536) λl r=> vq (zl (zy n 8) 1024) l λv=>dT u r (v::e) c x i
  |2=>dV z G e c u 1 (zy n 8) λl r=>dL r λL m=> .Hs (nthV l 0) (dT u m e c x i) (dT u (yl m L) e c x i)
  |3=>dP d (zy n 8) λp w m=>dV z G e c u w m λl r=> .op p l λv=>dT u r (v::e) c x i
  |4=>dV z G e c u 1 (zy n 256) λl r=> .op .K8 [nthV l 0] λa=> .op (.Mo (zl (zy n 8) 32)) [a] λy=> x2 yz y λv=>dT u r (v::y::a::e) c x i
  |5=>dV z G e c u 1 (zy n 256) λl r=> .op .K8 [nthV l 0] λa=> .op (.Mo (zl (zy n 8) 32)) [a] λv=>dT u r (v::a::e) c x i
  |6=>dV z G e c u 1 (zy n 128) λl r=> z1 (zl (zy n 8) 16) (nthV l 0) λv=>dT u r e (v::c) x i
  |_=>match zl (zy n 8) 32 with
   |0=>dV z G e c u (zl (zy n 256) 16) (zy n 4096) λl _=> z8 yu l
   |1=>dV z G e c u (zl (zy n 4096) 16) (zy n 65536) λl _=> z8 (y2 (zl (zy n 256) 16)) l
   |2=>dV z G e c u 1 (zy n 256) λl r=> x2 yz (nthV l 0) λv=>dT u r (v::e) c x i
   |3=>dV z G e c u 1 (zy n 4096) λl r=> x2 (zn (zl (zy n 256) 16)) (nthV l 0) λv=>dT u r (v::e) c x i
   |4=>dV z G e c u 2 (zy n 4096) λl r=> wf (zl (zy n 256) 16) (nthV l 0) (nthV l 1) (dT u r e c x i)
   |5=>dV z G e c u 1 (zy n 16384) λl r=> vg (zl (zy n 256) 64) (nthV l 0) λv=>dT u r (v::e) c x i
   |6=>dK (zy n 256) λf m=>dV z G e c u (zl m 16) (zy m 16) λl r=> vq f l λv=>dT u r (v::e) c x i
   |7=>dV z G e c u (zl (zy n 262144) 16) (zy n 4194304) λl r=> .BG (zl (zy n 256) 1024) l λv=>dT u r (v::e) c x i
   |8=>dV z G e c u (vh (zl (zy n 256) 16)) (zy n 4096) λl r=> .Mp (nthV l 0) l.tail λv=>dT u r (v::e) c x i
   |9=>dK (zy n 256) λf m=>dV z G e c u (zl m 16) (zy m 16) λl r=>dL r λL m=> x4 f l (λv=>dT u m e (v::c) x i) (dC b lk (λq v y=>dT u q e (v::c) y i) (yl m L))
   |10=>dK (zy n 256) λf r=>dL r λL m=> .Qp f (dT u m e c x i) (dC b lk (λq v y=>dT u q e (v::c) y i) (yl m L))
   |11=>dV z G e c u 2 (zy n 256) λl r=> wi (nthV l 0) (nthV l 1) (dT u r e c x i)
   |12=> x1
   |13=>dV z G e c u 1 (zy n 8192) λl r=> .op (.Mo (zl (zy n 256) 32)) [nthV l 0] λy=> x2 yz y λv=>dT u r (v::y::e) c x i
   |14=>dV z G e c u (zl (zy n 4096) 16) (zy n 65536) λl r=> .mem (zm (zl (zy n 256) 16)) l λv=>dT u r (v::e) c x i
   |15=>dV z G e c u 3 (zy n 256) λl r=> .Me (nthV l 0) (nthV l 1) (nthV l 2) (dT u r e c x i)
   |16=>dV z G e c u 1 (zy n 256) λl r=> .RL (nthV l 0) λv=>dT u r (v::e) c x i
   |17=>dV z G e c u 1 (zy n 4096) λl r=> .RR (zl (zy n 256) 16) (nthV l 0) (dT u r e c x i)
   |18=>dV z G e c u 2 (zy n 1048576) λl r=> .Kh (zl (zy n 256) 16) (zl (zy n 4096) 256) (nthV l 0) (nthV l 1) λv=>dT u r (v::e) c x i
   |19=>dV z G e c u 2 (zy n 1048576) λl r=> .M3 (zl (zy n 256) 16) (zl (zy n 4096) 256) (nthV l 0) (nthV l 1) λv=>dT u r (v::e) c x i
   |20=> .RQ λv=>dT u (zy n 256) (v::e) c x i
   |21=>dV z G e c u (zl (zy n 256) 16) (zy n 4096) λl _=> z8 x l
   |22=>dV z G e c u (zl (zy n 256) 16) (zy n 4096) λl _=> z8 (y2 i) l
   |23=>dL (zy n 256) λL r=>dL r λM m=>MX x (dT u m e c x i) (λj=>dT u (yl m L) e c x j) (dT u (yl m M) e c x i)
   |24=>dL (zy n 4096) λL m=>IX i (zl (zy n 256) 16) (dT u m e c x i) (dT u (yl m L) e c x i)
   |25=>dV z G e c u (zl (zy n 256) 16) (zy n 4096) λl _=> z8 z7 l
   |_=> x1
end
def dA(n:Nat)(z:Nat->Ad)(a:Nat->Pw)(b:Nat->YX)(G:List Ad->Nat->Ad)(c:(List Ad->IT)->(List Ad->IT)->Dz->List Ad->IT)(lk:Nat->(List Ad->IT)->(List Ad->IT)->Dz->List Ad->IT)(d:Dz->IT->(Nat->IT)->IT->IT)(e:Nat->Nat->IT->IT->IT):IT:=dT z a b G c lk d e 4000 n [] [] yu 0
def wayX(x:Dz)(A:IT)(E:Nat->IT)(R:IT):IT:=match x with
 | yu=>A
 | y2 i=>E i
 | z7=>R
def wayI(i k:Nat)(A B:IT):IT:=if i=k then A else B
def apV:List Ad->List Ad->List Ad
 |[],k=>k
 |x::l,k=>x::apV l k
section
variable(l:List (Nat×Nat))
def zT:Pw:= .Fc [I 0,S [],ff,S [],ff,S [],ff,ff,zc,ff,S [],zs xu 0] l
def zI:Pw:= .Fc [I 0,I 0,S [],ff] l
def zN:Pw:= .Fc [I 0,I 0,zc,I 0,I 0,S [],zc,S [],S [],S [],ff,I 0,I 0] l
def zA:Pw:= .Fc [I 0,S [],zc] l
end
def KO(l k:List Ad)(i:Nat):Ad:=nthV (ff::I 0:: yt []::I 1::tt:: zc::I 3::I 2::I 4:: y9 yz::I (-1)::I 9::I 7::I 6::I 5::S []::I 8::I 17::I 13::I 18::I 10::I 12::I 14::I 15::apV l k) i
abbrev bv:=(Nat->Ad)->(Nat->Pw)->(Nat->YX)->(List Ad->Nat->Ad)->((List Ad->IT)->(List Ad->IT)->Dz->List Ad->IT)->(Nat->(List Ad->IT)->(List Ad->IT)->Dz->List Ad->IT)->(Dz->IT->(Nat->IT)->IT->IT)->(Nat->Nat->IT->IT->IT)->IT
def cl(n:Nat)(y:bv):=∀z a b G c lk M J,dA n z a b G c lk M J=y z a b G c lk M J
def ap:List UInt8->Nat->Nat
 |[],n=>n
 |c::l,n=>ap l (.add (.mul n 63) (c.toNat.sub (bif c.toNat.blt 58 then 48 else bif c.toNat.blt 91 then 55 else bif c.toNat.blt 96 then 59 else 60)))
def bm(s:String):=ap (al s) 0
def rd(f:FuncId)(l:List Ad)(s:String)(k:List Ad:=[])(o:List Pw:=[])(m:List YX:=[]){y:bv}{w:IT}{n:Nat}(hn:bm s=n\/True:=by left;conv=>lhs;reduce)(e:cl n y:=by intro z a b G c lk M J;conv=>lhs;reduce)(d:y (KO l k) (nthP o) (nthM m) g nx lx wayX wayI=w:=by conv=>lhs;(try dsimp only[KO,wayX,wayI,nthV,nthP,nthM,apV,zT,zI,zN,zA]))(h:Cf cx f l=dA n (KO l k) (nthP o) (nthM m) g nx lx wayX wayI:=by kernel_rfl):Cf cx f l=w:=h.trans ((e ..).trans d)
def E5(f:FuncId)(s:String)(k:List Ad:=[])(o:List Pw:=[])(m:List YX:=[]){y:bv}{w:Ad->IT}{n:Nat}(hn:bm s=n\/True:=by left;conv=>lhs;reduce)(e:cl n y:=by intro z a b G c lk M J;conv=>lhs;reduce)(d:∀p,y (KO [p] k) (nthP o) (nthM m) g nx lx wayX wayI=w p:=by intro p;conv=>lhs;(try dsimp only[KO,wayX,wayI,nthV,nthP,nthM,apV,zT,zI,zN,zA]))(h:∀p,Cf cx f [p]=dA n (KO [p] k) (nthP o) (nthM m) g nx lx wayX wayI:=by intro p;kernel_rfl):∀p,Cf cx f [p]=w p:=λp=>(h p).trans ((e ..).trans (d p))
def DN(f:FuncId)(s:String)(k:List Ad:=[])(o:List Pw:=[])(m:List YX:=[]){y:bv}{w:Ad->Ad->IT}{n:Nat}(hn:bm s=n\/True:=by left;conv=>lhs;reduce)(e:cl n y:=by intro z a b G c lk M J;conv=>lhs;reduce)(d:∀p q,y (KO [p,q] k) (nthP o) (nthM m) g nx lx wayX wayI=w p q:=by intro p q;conv=>lhs;(try dsimp only[KO,wayX,wayI,nthV,nthP,nthM,apV,zT,zI,zN,zA]))(h:∀p q,Cf cx f [p,q]=dA n (KO [p,q] k) (nthP o) (nthM m) g nx lx wayX wayI:=by intro p q;kernel_rfl):∀p q,Cf cx f [p,q]=w p q:=λp q=>(h p q).trans ((e ..).trans (d p q))
def NH(f:FuncId)(s:String)(k:List Ad:=[])(o:List Pw:=[])(m:List YX:=[]){y:bv}{w:Ad->Ad->Ad->IT}{n:Nat}(hn:bm s=n\/True:=by left;conv=>lhs;reduce)(e:cl n y:=by intro z a b G c lk M J;conv=>lhs;reduce)(d:∀p q r,y (KO [p,q,r] k) (nthP o) (nthM m) g nx lx wayX wayI=w p q r:=by intro p q r;conv=>lhs;(try dsimp only[KO,wayX,wayI,nthV,nthP,nthM,apV,zT,zI,zN,zA]))(h:∀p q r,Cf cx f [p,q,r]=dA n (KO [p,q,r] k) (nthP o) (nthM m) g nx lx wayX wayI:=by intro p q r;kernel_rfl):∀p q r,Cf cx f [p,q,r]=w p q r:=λp q r=>(h p q r).trans ((e ..).trans (d p q r))
def rd4(f:FuncId)(s:String)(k:List Ad:=[])(o:List Pw:=[])(m:List YX:=[]){y:bv}{w:Ad->Ad->Ad->Ad->IT}{n:Nat}(hn:bm s=n\/True:=by left;conv=>lhs;reduce)(e:cl n y:=by intro z a b G c lk M J;conv=>lhs;reduce)(d:∀p q r u,y (KO [p,q,r,u] k) (nthP o) (nthM m) g nx lx wayX wayI=w p q r u:=by intro p q r u;conv=>lhs;(try dsimp only[KO,wayX,wayI,nthV,nthP,nthM,apV,zT,zI,zN,zA]))(h:∀p q r u,Cf cx f [p,q,r,u]=dA n (KO [p,q,r,u] k) (nthP o) (nthM m) g nx lx wayX wayI:=by intro p q r u;kernel_rfl):∀p q r u,Cf cx f [p,q,r,u]=w p q r u:=λp q r u=>(h p q r u).trans ((e ..).trans (d p q r u))
end Go.Am
set_option maxHeartbeats 0
set_option maxRecDepth 100000
namespace Go.Am
open Go
def aNu:=NH 3 "8DjZnfSRQqNfR9OMyWP7n6mQbaexcQqviurS8PWkKn12sYtsHLRRVcuDGmAXariSs6zfN2O84uBiOVZvzSbeuZ7VDw4kuC9VtwG7Zu2uPaH5zvTYv0mHolbo7cFW9QGFzE30zBAM4K7vW41mzqsDIJeuUgnzU8OWXCVNl1OXmFNX6kbq0gY49zFAYPznZmd8oNsYT" [I 40] [.beq true]
def aNv:=DN 4 "1Q8xeuVjDsiWreltmsj1wYv" [I 40]
def aNw:=E5 6 "8gJR6s0jBf9dMj5eahkkE2VLMnWVxHtLoqbtxql9d23yF19Cla" [I 60,I 100,I 200]
def aNx:=DN 7 "FgrXMpyIPRSKv2VHhuGqnVrIgacCfohxwcAzdC_7erpEj5ggHUD7pSWDw6XvumRxD5k6EJRKaqfC925euUhHvIkTJ9U9UnQiW80h6schnIUwO6AJKUPA6KtB817DRa" [] [.geq true [.i,.i,.s,.b]]
def SI:=DN 8 "Kaw5mrZNmFyMkcpj5LGxUi5Nk12YJk2PtgRAxcUKbQleARjjMsqo8T0efAn2ykIDKZuS6Gl0bBhUVgQpi_SEXotw7KBA54FUAJRxdkc2Q9pywmFPBHdM_bDnfwBHBGxt7yM13drQMUSd8aRWafaMM"
def aAy:=DN 9 "Kaw5mt2xXJVMr40kc6NSCs7X47y2LUAOY5A8PkATurSu3iVpEyUF2CfxCUVZu0NY_olFAjLRoakfLKXIxKvzXwgQVZWmn6bqU_28jMPCDOlaWwKIQ0I95cMBIP4OmjetXak38Lcl3N09JwwbOvmaW"
def aJx:=DN 10 "3KNdJzCbh5cLZlNVhxE7qzHRiasn5nsgb"
def aJy:=DN 11 "7q1a3fBfG7VyYq6LRF6JE3tIS1OMW__2all4WZ3JJWyDTqlAvcO7HxhJ55VIQzZJo2nf0pQmgoFdW4jcXlA9e8FCn75NwtYL9AjMgd_Uae" [I 60,I 200]
def aJz:=E5 12 "eBPUaudaTWQcl6KdW" [I 60]
def aAz:=DN 13 "3kTzU_kB0C3LQZlqeoFrquCV0M"
def aAA:=E5 14 "Dsp3y43V7" [] [zT [(0,1),(11,1)]]
def aAB:=E5 15 "Dsp3xpNot" [] [zT [(0,1),(1,1)]]
def aAC:=E5 16 "Df9u5SXd" [] [zT [(0,1),(1,1)]]
def aJA:=E5 17 "6C4fpIEd8Rtb04GlTdzbxAo7pnyWBL5BqGBJ2Ae4lmQNqcnzm95Y9QpWInNuZk135FWgJE0AejwaO8u5upsZBxndj_g" [I 20,I 400]
def aAD:=E5 18 "BSlvlOV6kfAggopIvAijbtxuwa54op"
def aAE:=E5 19 "BSozXlnWkOcPl5YvYuKcFCsSLxKNiC"
def GR:=DN 20 "UnchOEaCNUdkCyi4oyvMsTR5kibZds5T90L63r5IOaF0yaNj65UzAZ8VbdIzeZiuqiwaGcPUhAvJyjZcyZOSenMkTA6iqfGfLKdnKpyBDhvfEk8d96IxLu0og5TZqHFhSuMsLj6mG5ZEBme1GKd9f6CVnQ8auzCtw8zVI2VvjnmdtJJg_lSmFiaMgDMeyyWhGroGQu2H9M6HEUM3yq30ghMnX3ounIwBBhXvWjW7hOdYFccemMe4X7R82yYrVT7CfAV9bcY_BvnE6lrkObhIMzNeLQ9DbFdg2Ac8ML8oIYcwepdZQHNlMg5tq4q6r4kwC5qQZsWkZc4jfsXmv5PL1ktMCbrTIavWF8w2pPxMWOfTZ_IbxXsoEjZxbIPgm0kvdQ86l9pljjFh1XGB2eEUSHfMMBO8cfZ2K08iuQaILOP8Kdr_KoBnJEWZgUCiAD7ttCjwAmvS34D5zwyc0r73vb0EBE077pr" [I 11,I 16,I 19,I 20,I 21,I 22,I 23,I 24] [zI [(0,1)],zI []]
def GS:=DN 21 "2fpJyMoOygx17XyMBjnVCmf75laTsuNgrAqHfmRnKbkl72wDcYyNoarpBu6_lKFNJ39ZWrbasJlFK3qn2HCBuzxIctSIOLfhA6YENfi8GWzyrl_isfmCaeuQ4mN0mrOplq5I5wW2unBtjK4Mmivsr7yjAakS5fDkVEPIpUW9bKsalVIkBFlH1QvsyMKRo99H7QzWEe0sxaRMESuAKwN1OHypyYYmnuHPMewlngSQ1wGpPe0dn8wsCzqXE701bOg62TcCSF0HdZy3zmoZY5C9iWCdFKiFou_NWzd2Rwt8jzgTl8JlUg8hyUbEx44wzKLBzmtSKOiw0AeeMOkpix6oQ8wYXhr1qd2izrVD6cJNQesLlFQteMHRJ9jeKQR7iFjfcySwph6yqRhhhUaDKF5YUnZQOsnJWT5JPVf1pRpakWCE5mL9P948y1Q2rnJ7PnnRjqkJh8AEynOjvL57VoOn0NNBDiS2paFlITlmKSjL8dseNT10E34_" [I 11,I 16,I 19,I 20,I 21,I 22,I 23,I 24] [zI [(0,1)],zI [],zA []]
def nr:=E5 22 "1EK7AdcBPeCDpSBmvTI5gsMefnbh23B"
def eV:=DN 23 "44KZATnxkfcyoMl6kmubeYririHC4reA6YETu2zcWQuC5c" [] [] [.I_ .nilFunc true]
def SJ:=DN 24 "McjTL8JPMHg9cMdgQGaoXVHz8XAaCmzXwtlreqmaMR15ht1VuQfY6nnyghHDPPN1vAzlwWvYKR_VuTx8v98YiKb31aHKhTO3u_GCdP_LSoLHAJ6Y8ed8JmNal1SH2uu9x7IiVSiUMI_ZX4QrgOoIeTe9kjR"
def QQ:=DN 25 "36nuj96GAMUCOkWWOKxkESJkJPyM6gkarVumltPpqYu6iHWfeSQVoW6OqdMyWVBkPFpKX9iMM5NA_6Olf9JnmZ" [S a3e,S a2y]
def Pm:=DN 26 "1Q8eTZd_poT0kXj4lgOZ424kIHhTshHEXUlrC9EmhsFYgQH5WPpm2fjqH5gAPCOr5bNNftx9aRzCiPc1qqX_8nfhGHE3RqXs8awPIw5iQmzibtQDx" [S a3e,S a2y,S a2I]
def HI:=DN 27 "6vdTuv_jsspVVHzSwgMwWVsRMXNmIH5ymHDz3qQSw3OXpKhzU1hxO4YUvnoYXlpsLT1Hi72DNHA2tWkOSWrcA7MTn6VSvGaVRaVneARF4ux9JqldR1_vRCDFHRfUjx1FMMmcIEGEoc0kLPqjJblSqaznX3JSlUVTRTJg3JyqDeX7HRIA84pSMeDyBX1Fng8BwLCG0inl89aNFnnUChZKQBGDpcKS7Shjf9dGcZE9zmTjOm34RNWfcG3RyDKUaY3rPAC41fYBm" [S a2I,S a3O,S a2y,S a23,S a2S,S a3A,S a2Z,S a2J,S a2z]
def Ny:=DN 28 "rgjxjnwFPYcLuXCRa6k7rN99xBGqjaJdosmrOJY7ydPDrU5FCY9N84AOMNC9oqrFqAI11lnn4eOX0wuAXZoLmrsYfQcHtwJFwmEQcIdAeveNr5ICTDmoQuwF9dduG" [S a3H,S a4y,S a2y,S a2J,S a2N]
def LX:=DN 29 "B97yyqfTe8v3VobSZk8uPAmaV_t2qUMzeYkIg9SOd6G57AHXwW69Qwp3eoqblIBjWki_4RSxoBi6NzM0Rq9ol0IsgQfCIoVa26K07tEPNOf3XpEJiy2jaTafu_M0701XzQYMIo0eM0rHTiI6JdGJHhIAKYlA8tgekI5RwAcsb2NxV" [S a2I,S a39,S a2y,S a2B,S a2D,I 20,S a2w,.func (.func 27) [] [],S a2z]
def ì(p q:Ad):IT:=
 .cells 12 q λa=>.ca 97 [p,a12 a] λb=>.nt [b] λc=>.Hs c (.rr [ff]) (.op (.Fc [.ptr none,I 0,S [],ff,S [],ff,S [],ff,ff,.slnil,ff,S [],.int .i32 0] [(0,1),(1,12)]) [p,a12 a] λd=>.alloc 13 d λe=>.ie [g a 0,I 5] λf=>.Hs f (.ca 112 [e] λ_=>.rr [ff]) (.ie [g a 0,I 4] λh=>.Hs h (.ca 62 [p,g a 10,I 0] λ_=>.rr [ff]) (.ie [g a 0,I 6] λj=>.Hs j (.RM p 6 λ_ _ k=>.ln [k] λm=>.ig [m,I 0] λn=>.Hs n (.ca 32 [p,a12 a] λo=>.rr [o]) (.ca 71 [p] λ_=>.rr [ff])) (.ie [g a 0,I 2] λs=>.Hs s (.ca 113 [] λu=>.N7 .nilFunc false u (g a 1) λw=>.op (.GH true .fn) [w,.nilFunc] λy=>.Hs y (.Mp w [e] λz=>.rr [z]) (.ca 65 [p] λ_=>.ca 57 [p,a12 a] λ_=>.rr [ff])) (.ie [g a 0,I 3] λa0=>.Hs a0 (.ca 114 [] λa1=>.N7 .nilFunc false a1 (g a 1) λa2=>.op (.GH true .fn) [a2,.nilFunc] λa5=>.Hs a5 (.Mp a2 [e] λa7=>.rr [a7]) (.ca 66 [p,g a 1] λ_=>.rr [ff])) (.rr [ff]))))))
def LY:Tq2 cx 30 ì:=λ_ _=>Dv
def UL:=DN 31 "1NdSRO6pKFp8FUYL78J1xkkPSdcZDwtAqYMRqBjtEmpUq7tauQcYvYjdY8AySdXuP"
def KI:=DN 32 "N9P5vFJpwJo2d0DPwVqjELsVdRZBDpcGMLiXUhJVASloVihnDd1y_W6Ih2UEX1_drifV0nn6inyQkK43bobtt14GsWBiUKx_HKnmNjKbVGGXjzAwv8aQToBfsfGkpmcDJY3xPcAtoLI08Ccr6u67GiMcxZYw3LLwXINNVwtZOtPeVZDmEl4L5zuKiaOMaqHWO" [S a2w,S a2z,S a2V,S a4h,S [116,114],S a4F]
def nu:=DN 33 "pCIWBKBFK08lKGmMuh6DHrIXLRyQRPT0LhJT5P7y8UyR32MbaRuixdTW5pEbReJY3WdmRIj20WdEh9TmYuXSSAppgXv71N5EqTkSYnKobmaVNvH8YPcbYlbM"
def XM:=DN 34 "3ttcX_AShVZvB0HftfRP0OOIyMyQGx9GNgeQdjbpxSSdHjQImTel2wjxAi2ahuKg7hi4Wlwv9ml4vQ1Z78MydD1_8ilGgeGnGcWps0agIY9TZs3og0cea16KdoxS" [] [zN [(0,1),(5,1),(8,1),(9,1)]]
def UM:=DN 35 "33Br10caz_tF53T8lVtgVFSFiIIEaToClMeB4Uf_aMtSh5C3sgXrqxAVIcC6OFOEMkcFMmamvSWMIuf3XJ_Zjg2agOEaIgxZTYX8SohYUSqd" [S a2y,S a3e]
def SK:=DN 36 "1JvMmavKQc4_AXcj5cDzTogmHnfHYSeKyb8USoPlOS9QjZTOvWUm2pDr7nMQMENuCxKC8fPTK2E6KJC_iIwZEzsZtRbLMq8ysWt8u5Nq_B9A24m8OhGdqOfqMtJNcwVvDP0G8Gu4Ui5DcxW" [S a2y,S a2I,S a3e]
def I7:=DN 37 "6sUSYMfH_tWq2Vp49piyPJTc3_yLhsV8YQzlJB18ohmq9B3p1yssRZM2OBW6An3zop3CdDJLdzQ23lp4GB_xs2xsyvVOHqB5HOcRGiOS745I4p93bHuNcsaOO7IAv8Qh5SCX2OZ42rM5thK7Dvdix3Dm1v9Ww7e6iS3NTzznpy7Z39iPGgwHyDxTcrPYAg_gdqs0vfo2Fc8QviLua8goXH93p3qeh636auLEiUYHq6sMmy4gHj_m0YQ3k_yTgiIdw4A3oBM9tzCpmTkhKMDCyhk8M8omvI5Q5oVk" [S a2y,S a23,S a2S,S a3A,S a2Z,S a2J,S a2I,S a2z,S a4g] [zA []]
def Pn:=DN 38 "ACq0Rv7RVQfwo0GuMQTAkSUKp3AZMWA26ewSQb5ZRiVV8FcMQvZ6I5qNKbHEalCUIkPvxSecuYo1NkcquuxaVk5fXSaugiQF7dMxaeJGbtGJnZak1mPjRdN3IUAxjHOy0eUACh7VDbmt6" [S a2y,S a2J,S a2N,S a3H,S [98,114]]
def Nz:=DN 39 "3L2obzCoERemSew0rY6yBi4yIUrRZX5P0nLX8MPn_pVrJ1QF2IjwcSyfukqZS3HiyYtSdzt3mRX6L1yf5kfkKrjS9HnCvnj7Lx3PUTuCXa3M4KoxmVTyKPAmkG4GYGCQhcq4aYy3ufUswkx4LpDCVDRhGXbTJ9ATh4EBh3Gsm8TDGy1uckXM8fK0BtI0yCdTn7CDZLdE5s3DnvhjCrqAVCKjNKC07HFg0uvuBhz16lk0rdC1qu8w8P" [S a2y,S a2B,S a2D,I 20,S a2w,S a2I,S a2z,S a4g] [zI [(0,1),(1,1),(2,1)]]
def MI:=DN 40 "_KaM0hZUy1dZPsSDL2Dn_mUbZcAKUrEDlAYSQuGspazai4dyieFi_fxrcUfDf2i6_lUfY7XmfNM6jsoLf12NoRtQr7FxOnfnMKzw5ZIAxGivEvYViPOFkMgpVVR_7JnKwrvRoK8VFhiX0" [.int .i32 0,S a2w,S a2z]
def pF:=DN 41 "1GhtiCHFMAche0_BHl1pgsEpsYCNYXwg_w_c0tDL8QpHXhRqo5nrcyl4NLAJnzw9f_lRn"
def LZ:=DN 42 "7Rq5iSKH998gBXg9rLQo3CsEKt6bqClB9zCi5U2w9hgwxaeWZxWQq4hUdoslKvGVlNnVyKeqWTb6EwtbGugfy_rdo7accBj9pOocdtBOhjXV8OEPdsKZmUZvw8QdQtLlxmsOzACxrv0mLvDDxd5dkbXqxcxcOKTBzGVkRe8cnwDShbEpCOMAVa6WagfBEsxTi6WB7Lnf87LRrPTdMKsiuQQJgz8VdndDzENLV4K0JdTzb_Wr81HqZxbPPMiitAWFQlfrQ21e6sH8ZNc4OG_g_KLIi4DeIpaF7nkPVrWO6sk6i4xfNidxPdidITbzYcqijfMp8ZBFbvOGxPQd1mpBI" [S a2w,S a2z,S a2V,S a4h,S [116,114],S a4F]
def aJB:=DN 43 "Pb6VasFRSbq1IvxTB4bsKAKnpu02ZNs6zKKYWVfquhMVXjOthNa0kHkatN_IuPDUoWiVcgwQ_Y63KLhDL1DrFhEyWtyljhGVRUvQZyRGE1RqJNDMlBjaeLeIlO4g615EyBuu8tvq5RimJ78Va3hpSPsZkDABwISqtK64bTihsbsDHvUCQSxh_" [] [.beq false]
def t44(p:Ad):IT:=
 .ca 138 [p] λa=>.nt [a] λb=>.Hs b (.op (.Fc [I 0,I 0,.slnil,.slnil,.slnil,I 0,I 0,ff,ff,S [],ff,I 0,ff] []) [] λc=>.cells 13 c λd=>.rr [a13 d]) (.RM p 4 λ_ e f=>.RM p 5 λ_ h j=>.RM p 6 λ_ _ k=>.RM p 7 λ_ m n=>.RM p 8 λ_ o s=>.RM p 14 λ_ u w=>.RM p 15 λ_ y z=>.RM p 16 λ_ a0 a1=>.RM p 17 λ_ a2 a5=>.RM p 18 λ_ a7 a8=>.RM p 19 λ_ b0 b1=>.ca 110 [k] λb2=>.ld b0 λb3=>.same b1 b3 (.ld a7 λb4=>.same a8 b4 (.ld a2 λb5=>.same a5 b5 (.ld a0 λb6=>.same a1 b6 (.ld y λb7=>.same z b7 (.ld u λb8=>.same w b8 (.ld o λb9=>.same s b9 (.ld m λc0=>.same n c0 (.ld h λc1=>.same j c1 (.ld e λc2=>.same f c2 (.op (.Fc [I 0,I 0,.slnil,.slnil,.slnil,I 0,I 0,ff,ff,S [],ff,I 0,ff] [(0,1),(1,1),(2,1),(5,1),(6,1),(7,1),(8,1),(9,1),(10,1),(11,1),(12,1)]) [f,j,b2,n,s,w,z,a1,a5,a8,b1] λc4=>.cells 13 c4 λc5=>.fa p 2 λ_ c6=>.fl c6 0 λ_ c7=>.ln [c7] λc8=>.loop 5 [a13 c5,I 0] (λc9=>.cells 13 (g c9 0) λd0=>.il [g c9 1,c8] λd1=>.Hs d1 (.ea 4 [c7,g c9 1] λd2=>.load (some 4) d2 λd3=>.cells 4 d3 λd4=>.op (.Df 1) [g d4 0] λd5=>.Kh 1 8 (g d0 3) d5 λd6=>.cells 1 d6 λd7=>.ia [g c9 1,I 1] λd8=>.rn [.agg [g d0 0,g d0 1,g d0 2,g d7 0,g d0 4,g d0 5,g d0 6,g d0 7,g d0 8,g d0 9,g d0 10,g d0 11,g d0 12],d8]) (.rx 0 [a13 d0,g c9 1])) (λx d9=>.cells 13 (g d9 0) λe0=>match x with| .normal=>.fail| .exit i=>if i=0 then .fa p 3 λ_ e1=>.fl e1 0 λ_ e2=>.ln [e2] λe3=>.make 3 48 [I 0,S [],.slnil] e3 e3 λe4=>.cells 1 e4 λe5=>.fa p 3 λ_ e6=>.fl e6 0 λ_ e7=>.mem (.copy 3) [g e5 0,e7] λ_=>.ln [g e5 0] λe8=>.loop 12 [I 0] (λe9=>.il [g e9 0,e8] λf0=>.Hs f0 (.ea 3 [g e5 0,g e9 0] λf1=>.fl f1 2 λ_ f2=>.ca 139 [f2] λf3=>.ea 3 [g e5 0,g e9 0] λf4=>.op (.Mo 2) [f4] λf5=>.store 1 f5 f3 (.ia [g e9 0,I 1] λf6=>.rn [f6])) (.rx 2 [g e9 0])) (lx 2 (λf7=>.cells 13 (.agg [g e0 0,g e0 1,g e0 2,g e0 3,g e5 0,g e0 5,g e0 6,g e0 7,g e0 8,g e0 9,g e0 10,g e0 11,g e0 12]) λf8=>.rr [a13 f8]) λf7=>.rr [.agg [I 0,I 0,.slnil,.slnil,.slnil,I 0,I 0,ff,ff,S [],ff,I 0,ff]]) else .fail| .ret=>.rr [.agg [I 0,I 0,.slnil,.slnil,.slnil,I 0,I 0,ff,ff,S [],ff,I 0,ff]]))))))))))))
def aJC:Tq1 cx 44 t44:=λ_=>Dv
def aJD:=E5 45 "EFTKsY9g9u6XGq76tWcuchpoMVDghqY5WJ0MnoSeRTZsWd7YMQ1tmCYSXRL2InQVdCA0tLXdcaXoqbddKbaL_pMpg_kQFevU9ZuwpLOM9dahatkFGUfot4UjaZnJIqyBY2s3X476qRLBCJMWbU_dNlBy1y__dMMdNnB1bx65JyVeLVSeJXDu1GDykVOPFTbkTtDFqAx86uXPYnjF_2w_ydTJdv5AwlPDIg9x_Lw6UWupAGH_AIeDm8G" [.agg [I 0,I 0,.slnil,.slnil,.slnil,I 0,I 0,ff,ff,S [],ff,I 0,ff]] [.Fc [I 0,I 0,.slnil,.slnil,.slnil,I 0,I 0,ff,ff,S [],ff,I 0,ff] [(0,1),(1,1),(2,1),(5,1),(6,1),(7,1),(8,1),(9,1),(10,1),(11,1),(12,1)],zA [(0,1),(1,1),(2,1)]]
def aJE:=DN 46 "5v_iFdYs86TTJ1p23yxsdf4ZMw"
def aAF:=E5 47 "5DyMIqQ8K9uHzzmuqUh1gaEXYNeOHyN_ue6Zk5zTevyS4EOYGe52p3VBmcitVF70rCTlmH9vz0Di3caIrmH_GuxTP4yziJG" [.tuple [.ptr none,ff]]
def nv:=rd 49 [] "_c_C" [] [.Fc [.slnil,.map none] []]
def pG:=DN 50 "1H2s6dCHj5maO6e02O5MualCElfosK" [] [zN [(0,1),(10,1)]]
def pH:=NH 51 "9gqAjqBb__Ou9gQoZk6b8y4_OftKRnMZxakQL7rsiRuPKYiDPR7iLcl3Da33YDWj5yR05wHlUvvp36nqJ1NTDCC5RvZhH0zO6wUrks7Wxa6oVTr_gMuONOLOq9hue7b5MTCdqAi0e" [S a2y,S a2z] [zT [(0,1),(1,1)],zI [(1,1),(2,1),(3,1)]]
def ny:=DN 52 "HFAj2cXmVYXphnr_Vp4SgVJKhW71OH0KPn0" [] [.Fc [.ptr none,I 0,.slnil,.slnil,I 0,I 0,.slnil,I 0,I 0,ff,I 0,I 0,S [],ff,ff,ff,S [],ff,I 0,ff] [(0,1),(1,1),(4,1),(14,1)]]
def aJF:=DN 54 "5wQaYmgx48e" [] [zN [(0,1),(3,1),(10,1)]]
def aJG:=NH 55 "oBaRCWzAF7wUL62c3gf3pzfSPN5ruL6IJHh6avqVWU2_iQ_CQTAtnGq67SKP1XGs1btan8Km_nmqKMw8ONoX5ht9r4gM0BskNHx8SnLG6QogDO2eR_1m_x5PsubBkQRfh8_ATaNPIvimzlBqTCTJ7aUEMUrsKhzHo4" [S a2y,S a2z] [zI [(0,1),(1,1),(2,1)],zI [(1,1),(2,1),(3,1)]]
def aJH:=DN 56 "6h7cydfmhqiNgfNkGdg" [] [.Fc [.ptr none,I 0,.slnil,.slnil,I 0,I 0,.slnil,I 0,I 0,ff,I 0,I 0,S [],ff,ff,ff,S [],ff,I 0,ff] [(0,1),(1,1),(4,1),(14,1)]]
def nz:=DN 57 "GUbq332B"
def aJI:=E5 58 "VV_9ef4JUrcxu2f5K" [] [zT [(0,1),(1,1),(8,1)]]
def t59(p q r:Ad):IT:=
 .cells 12 q λa=>.ca 138 [p] λb=>.nt [b] λc=>.Hs c (.rr [I 0]) (.ca 163 [p,.func (.func 77) [p] [],a12 a,r] λd=>.rr [d])
def n_:Tq3 cx 59 t59:=λ_ _ _=>Dv
def oa:=DN 60 "LmPj88OQrP2kk6nTZeko7fKlqdNQf" [] [zA [(0,1),(1,1),(2,1)]]
def XN:=DN 61 "7Cs67EFPyzhplN9_R7jtcd4xE3yMSd2ylzxBbOmpzBEj9t0UOAXYnYIi2beoYYzXNN8bNq0BAxOGvb2Q0LQzfJ2dnvjUjihTtOsnUGa_x4BYwSZWC9tp8i8XvZWHfCuouMV5N1VYIQzy495asyQBhQH8zh_FuTBOaRlfTGjdkNalvkXkGLvpNgPle1cq3JOcHAVIW54M"
def pI:=NH 62 "8hXKSp2htYXECRnN4GFnHajqRpNQgzHQgjkBS2KykBeEev1Ogoz5LGF8ETBR5rAklt3oUErpJxkMTGeZt68nrE98nXM4jHc7b91YNYy9tFoB9ioQNSzexBqj7C5y"
def ob:=NH 63 "8_C2UNiszeMsYzGqmfK7qOduIbtHDsMpk9s"
def pJ:=E5 64 "9Qiq9N1o8ZSZqprsilvZJBzb50gsf5Kha_7bJ4Sfk" [S [112]]
end Go.Am
