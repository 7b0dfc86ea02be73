/- Lemmas -/
import Derived.Test.YtffmdapalbecoaaGreatDoorO9
import Derived.Test.YtffmdapalbecoaaGreatDoorO17
set_option linter.all false
namespace Go.Am
open Go
def nthV:List Aa->Nat->Aa
 |[],_=> .nilIface
 |x::_,0=>x
 |_::l,n+1=>nthV l n
def nthP:List Oc->Nat->Oc
 |[],_=> .J6
 |x::_,0=>x
 |_::l,n+1=>nthP l n
def nthM:List WQ->Nat->WQ
 |[],_=> .wz
 |x::_,0=>x
 |_::l,n+1=>nthM l n
def nthL:List (List Aa)->Nat->List Aa
 |[],_=>[]
 |x::_,0=>x
 |_::l,n+1=>nthL l n
def allG(G:Nat->Aa):Nat->Nat->List Aa
 |0,_=>[]
 |n+1,i=>G i::allG G n (Nat.succ i)
def dL{T:Type}(n:Nat)(k:Nat->Nat->T):T:=match Nat.mod n 2 with
 |0=>k (Nat.mod (Nat.div n 2) 256) (Nat.div n 512)
 |_=>k (Nat.mod (Nat.div n 2) 16384) (Nat.div n 32768)
section
variable(z:Nat->Aa)(zo:Nat->Oc)(zm:Nat->WQ)(G:List Aa->Nat->Aa)(nk:(List Aa->IT)->(List Aa->IT)->Dm->List Aa->IT)(lk:Nat->(List Aa->IT)->(List Aa->IT)->Dm->List Aa->IT)(MX:Dm->IT->(Nat->IT)->IT->IT)(IX:Nat->Nat->IT->IT->IT)
def dV(e:List Aa)(c:List (List Aa)):Nat->Nat->Nat->(List Aa->Nat->IT)->IT
 |0,_,_,_=> .fail
 |_+1,0,n,k=>k [] n
 |u+1,w+1,n,k=>match Nat.mod n 4 with
  |0=>dV e c u w (Nat.div n 4) λl r=>k (nthV e 0::l) r
  |1=>dV e c u w (Nat.div n 16) λl r=>k (z (Nat.add 24 (Nat.mod (Nat.div n 4) 4))::l) r
  |2=>match Nat.mod (Nat.div n 4) 8 with
   |7=>dV e c u w (Nat.div n 2048) λl r=>k (z (Nat.add 7 (Nat.mod (Nat.div n 32) 64))::l) r
   |j=>dV e c u w (Nat.div n 32) λl r=>k (z j::l) r
  |_=>match Nat.mod (Nat.div n 4) 2 with
   |0=>dV e c u w (Nat.div n 256) λl r=>k (G (nthL c (Nat.mod (Nat.div n 8) 2)) (Nat.mod (Nat.div n 16) 16)::l) r
   |_=>match Nat.mod (Nat.div n 8) 4 with
    |0=>dV e c u w (Nat.div n 2048) λl r=>k (nthV e (Nat.succ (Nat.mod (Nat.div n 32) 64))::l) r
    |1=>dV e c u w (Nat.div n 4096) λl r=>k (G (nthL c (Nat.add 2 (Nat.mod (Nat.div n 32) 8))) (Nat.mod (Nat.div n 256) 16)::l) r
    |2=>match Nat.mod (Nat.div n 32) 4 with
     |0=>dV e c u (Nat.mod (Nat.div n 128) 16) (Nat.div n 2048) λl r=>dV e c u w r λa r2=>k (.agg l::a) r2
     |1=>dV e c u (Nat.mod (Nat.div n 128) 16) (Nat.div n 2048) λl r=>dV e c u w r λa r2=>k (.tuple l::a) r2
     |2=>dV e c u (Nat.mod (Nat.div n 128) 16) (Nat.div n 2097152) λl r=>dV e c u w r λa r2=>k (.func (.func (Nat.mod (Nat.div n 2048) 1024)) [] l::a) r2
     |_=>dV e c u (Nat.mod (Nat.div n 128) 16) (Nat.div n 2048) λl r=>dV e c u w r λa r2=>k (.CH l::a) r2
    |_=>dV e c u w (Nat.div n 2048) λl r=>k (.agg (allG (G (nthL c (Nat.mod (Nat.div n 32) 4))) (Nat.mod (Nat.div n 128) 16) 0)::l) r
def dP(n:Nat)(k:Oc->Nat->Nat->IT):IT:=match Nat.mod n 16 with
 |0=>k (.int .eql) 2 (Nat.div n 16)
 |1=>k (.str .eql) 2 (Nat.div n 16)
 |2=>k (.len false) 1 (Nat.div n 16)
 |3=>k (.un .not) 1 (Nat.div n 16)
 |4=>k (.int .lss) 2 (Nat.div n 16)
 |5=>k (.int .add) 2 (Nat.div n 16)
 |6=>k (.Dk 1) (Nat.mod (Nat.div n 16) 16) (Nat.div n 256)
 |7=>k (.int .neq) 2 (Nat.div n 16)
 |8=>k (.int .sub) 2 (Nat.div n 16)
 |9=>k (.EE (Nat.mod (Nat.div n 16) 16)) 2 (Nat.div n 256)
 |10=>k (.ext (Nat.mod (Nat.div n 16) 4)) 1 (Nat.div n 64)
 |11=>k (.int .geq) 2 (Nat.div n 16)
 |12=>k (.append (Nat.mod (Nat.div n 16) 16) (Nat.mod (Nat.div n 256) 256)) 2 (Nat.div n 65536)
 |13=>k (zo (Nat.mod (Nat.div n 16) 8)) (Nat.mod (Nat.div n 128) 16) (Nat.div n 2048)
 |14=>match Nat.mod (Nat.div n 16) 16 with
  |0=>k (.int .gtr) 2 (Nat.div n 256)
  |1=>k (.int .leq) 2 (Nat.div n 256)
  |2=>k (.len true) 1 (Nat.div n 256)
  |3=>k (.peq true) 2 (Nat.div n 256)
  |4=>k (.peq false) 2 (Nat.div n 256)
  |5=>k .J6 1 (Nat.div n 256)
  |6=>k .bP 2 (Nat.div n 256)
  |7=>k (.str .add) 2 (Nat.div n 256)
  |8=>k (.str .neq) 2 (Nat.div n 256)
  |9=>k (.conv .u8) 1 (Nat.div n 256)
  |10=>k (.conv .i32) 1 (Nat.div n 256)
  |11=>k (.int .or) 2 (Nat.div n 256)
  |12=>k (.int .and) 2 (Nat.div n 256)
  |_=>k .Yi 1 (Nat.div n 256)
 |_=>match Nat.mod (Nat.div n 16) 2 with
  |0=>k (.Dk (Nat.mod (Nat.div n 32) 16)) (Nat.mod (Nat.div n 512) 16) (Nat.div n 8192)
  |_=>k (.K8 (Nat.mod (Nat.div n 32) 16)) 1 (Nat.div n 512)
def dK(n:Nat)(k:Nat->Nat->IT):IT:=match Nat.mod n 4 with
 |0=>k (Nat.mod (Nat.div n 4) 1024) (Nat.div n 4096)
 |1=>k (Nat.add 100000 (Nat.mod (Nat.div n 4) 1024)) (Nat.div n 4096)
 |2=>k (Nat.add 200000 (Nat.mod (Nat.div n 4) 1024)) (Nat.div n 4096)
 |_=>k (Nat.add 300000 (Nat.mod (Nat.div n 4) 1024)) (Nat.div n 4096)
def dC(D:Nat->List Aa->Dm->IT)(n:Nat):Dm->List Aa->IT:=match Nat.mod n 4 with
 |0=>dL (Nat.div n 4) λL m=>nk (λv=>D m v .normal) (λv=>D (Nat.shiftRight m L) v .normal)
 |1=>dL (Nat.div n 64) λL m=>lk (Nat.mod (Nat.div n 4) 16) (λv=>D m v .normal) (λv=>D (Nat.shiftRight m L) v .normal)
 |_=>λy v=>D (Nat.div n 4) v y
def dT:Nat->Nat->List Aa->List (List Aa)->Dm->Nat->IT
 |0,_,_,_,_,_=> .fail
 |u+1,n,e,c,x,i=>match Nat.mod n 8 with
  |0=>dV z G e c u 1 (Nat.div n 8) λl _=> .ret .ret l
  |1=>dV z G e c u (Nat.mod (Nat.div n 8192) 8) (Nat.div n 65536) λl r=> .call (Nat.mod (Nat.div n 8) 1024) l λv=>dT u r (v::e) c x i
  |2=>dV z G e c u 1 (Nat.div n 8) λl r=>dL r λL m=> .GJ (nthV l 0) (dT u m e c x i) (dT u (Nat.shiftRight m L) e c x i)
  |3=>dP zo (Nat.div n 8) λp w m=>dV z G e c u w m λl r=> .op p l λv=>dT u r (v::e) c x i
  |4=>dV z G e c u 1 (Nat.div n 256) λl r=> .op .J6 [nthV l 0] λa=> .op (.K8 (Nat.mod (Nat.div n 8) 32)) [a] λy=> .load none y λv=>dT u r (v::y::a::e) c x i
  |5=>dV z G e c u 1 (Nat.div n 256) λl r=> .op .J6 [nthV l 0] λa=> .op (.K8 (Nat.mod (Nat.div n 8) 32)) [a] λv=>dT u r (v::a::e) c x i
  |6=>dV z G e c u 1 (Nat.div n 128) λl r=> .cells (Nat.mod (Nat.div n 8) 16) (nthV l 0) λv=>dT u r e (v::c) x i
  |_=>match Nat.mod (Nat.div n 8) 32 with
   |0=>dV z G e c u (Nat.mod (Nat.div n 256) 16) (Nat.div n 4096) λl _=> .ret .normal l
   |1=>dV z G e c u (Nat.mod (Nat.div n 4096) 16) (Nat.div n 65536) λl _=> .ret (.exit (Nat.mod (Nat.div n 256) 16)) l
   |2=>dV z G e c u 1 (Nat.div n 256) λl r=> .load none (nthV l 0) λv=>dT u r (v::e) c x i
   |3=>dV z G e c u 1 (Nat.div n 4096) λl r=> .load (some (Nat.mod (Nat.div n 256) 16)) (nthV l 0) λv=>dT u r (v::e) c x i
   |4=>dV z G e c u 2 (Nat.div n 4096) λl r=> .store (Nat.mod (Nat.div n 256) 16) (nthV l 0) (nthV l 1) (dT u r e c x i)
   |5=>dV z G e c u 1 (Nat.div n 16384) λl r=> .alloc (Nat.mod (Nat.div n 256) 64) (nthV l 0) λv=>dT u r (v::e) c x i
   |6=>dK (Nat.div n 256) λf m=>dV z G e c u (Nat.mod m 16) (Nat.div m 16) λl r=> .call f l λv=>dT u r (v::e) c x i
   |7=>dV z G e c u (Nat.mod (Nat.div n 262144) 16) (Nat.div n 4194304) λl r=> .BM (Nat.mod (Nat.div n 256) 1024) l λv=>dT u r (v::e) c x i
   |8=>dV z G e c u (Nat.succ (Nat.mod (Nat.div n 256) 16)) (Nat.div n 4096) λl r=> .La (nthV l 0) l.tail λv=>dT u r (v::e) c x i
   |9=>dK (Nat.div n 256) λf m=>dV z G e c u (Nat.mod m 16) (Nat.div m 16) λl r=>dL r λL m=> .loop f l (λv=>dT u m e (v::c) x i) (dC nk lk (λq v y=>dT u q e (v::c) y i) (Nat.shiftRight m L))
   |10=>dK (Nat.div n 256) λf r=>dL r λL m=> .OS f (dT u m e c x i) (dC nk lk (λq v y=>dT u q e (v::c) y i) (Nat.shiftRight m L))
   |11=>dV z G e c u 2 (Nat.div n 256) λl r=> .same (nthV l 0) (nthV l 1) (dT u r e c x i)
   |12=> .fail
   |13=>dV z G e c u 1 (Nat.div n 8192) λl r=> .op (.K8 (Nat.mod (Nat.div n 256) 32)) [nthV l 0] λy=> .load none y λv=>dT u r (v::y::e) c x i
   |14=>dV z G e c u (Nat.mod (Nat.div n 4096) 16) (Nat.div n 65536) λl r=> .mem (zm (Nat.mod (Nat.div n 256) 16)) l λv=>dT u r (v::e) c x i
   |15=>dV z G e c u 3 (Nat.div n 256) λl r=> .KX (nthV l 0) (nthV l 1) (nthV l 2) (dT u r e c x i)
   |16=>dV z G e c u 1 (Nat.div n 256) λl r=> .P5 (nthV l 0) λv=>dT u r (v::e) c x i
   |17=>dV z G e c u 1 (Nat.div n 4096) λl r=> .Qa (Nat.mod (Nat.div n 256) 16) (nthV l 0) (dT u r e c x i)
   |18=>dV z G e c u 2 (Nat.div n 1048576) λl r=> .J7 (Nat.mod (Nat.div n 256) 16) (Nat.mod (Nat.div n 4096) 256) (nthV l 0) (nthV l 1) λv=>dT u r (v::e) c x i
   |19=>dV z G e c u 2 (Nat.div n 1048576) λl r=> .LM (Nat.mod (Nat.div n 256) 16) (Nat.mod (Nat.div n 4096) 256) (nthV l 0) (nthV l 1) λv=>dT u r (v::e) c x i
   |20=> .P9 λv=>dT u (Nat.div n 256) (v::e) c x i
   |21=>dV z G e c u (Nat.mod (Nat.div n 256) 16) (Nat.div n 4096) λl _=> .ret x l
   |22=>dV z G e c u (Nat.mod (Nat.div n 256) 16) (Nat.div n 4096) λl _=> .ret (.exit i) l
   |23=>dL (Nat.div n 256) λL r=>dL r λM m=>MX x (dT u m e c x i) (λj=>dT u (Nat.shiftRight m L) e c x j) (dT u (Nat.shiftRight m M) e c x i)
   |24=>dL (Nat.div n 4096) λL m=>IX i (Nat.mod (Nat.div n 256) 16) (dT u m e c x i) (dT u (Nat.shiftRight m L) e c x i)
   |25=>dV z G e c u (Nat.mod (Nat.div n 256) 16) (Nat.div n 4096) λl _=> .ret .ret l
   |_=> .fail
end
def dA(n:Nat)(z:Nat->Aa)(zo:Nat->Oc)(zm:Nat->WQ)(G:List Aa->Nat->Aa)(nk:(List Aa->IT)->(List Aa->IT)->Dm->List Aa->IT)(lk:Nat->(List Aa->IT)->(List Aa->IT)->Dm->List Aa->IT)(MX:Dm->IT->(Nat->IT)->IT->IT)(IX:Nat->Nat->IT->IT->IT):IT:=dT z zo zm G nk lk MX IX 4000 n [] [] .normal 0
def wayX(x:Dm)(A:IT)(E:Nat->IT)(R:IT):IT:=match x with
 | .normal=>A
 | .exit i=>E i
 | .ret=>R
def wayI(i k:Nat)(A B:IT):IT:=if i=k then A else B
def apV:List Aa->List Aa->List Aa
 |[],k=>k
 |x::l,k=>x::apV l k
def zT(l:List (Nat×Nat)):Oc:= .EM [I 0,S [],ff,S [],ff,S [],ff,ff,.slnil,ff,S [],.int .i32 0] l
def zI(l:List (Nat×Nat)):Oc:= .EM [I 0,I 0,S [],ff] l
def zN(l:List (Nat×Nat)):Oc:= .EM [I 0,I 0,.slnil,I 0,I 0,S [],.slnil,S [],S [],S [],ff,I 0,I 0] l
def zA(l:List (Nat×Nat)):Oc:= .EM [I 0,S [],.slnil] l
def KZ(l k:List Aa)(i:Nat):Aa:=nthV (ff::I 0:: .tuple []::I 1::tt:: .slnil::I 3::I 2::I 4:: .ptr none::I (-1)::I 9::I 7::I 6::I 5::S []::I 8::I 17::I 13::I 18::I 10::I 12::I 14::I 15::apV l k) i
def rd(f:FuncId)(l:List Aa)(n:Nat)(k:List Aa:=[])(o:List Oc:=[])(m:List WQ:=[]){y:(Nat->Aa)->(Nat->Oc)->(Nat->WQ)->(List Aa->Nat->Aa)->((List Aa->IT)->(List Aa->IT)->Dm->List Aa->IT)->(Nat->(List Aa->IT)->(List Aa->IT)->Dm->List Aa->IT)->(Dm->IT->(Nat->IT)->IT->IT)->(Nat->Nat->IT->IT->IT)->IT}{w:IT}
 (h1:∀z zo zm G nk lk M J,dA n z zo zm G nk lk M J=y z zo zm G nk lk M J:=by intro z zo zm G nk lk M J;conv=>lhs;reduce)
 (h2:y (KZ l k) (nthP o) (nthM m) g nx lx wayX wayI=w:=by conv=>lhs;(try dsimp only[KZ,wayX,wayI,nthV,nthP,nthM,apV,zT,zI,zN,zA]))
 (h0:B8 cx f l=dA n (KZ l k) (nthP o) (nthM m) g nx lx wayX wayI:=by kernel_rfl):B8 cx f l=w:=h0.trans ((h1 ..).trans h2)
def EK(f:FuncId)(n:Nat)(k:List Aa:=[])(o:List Oc:=[])(m:List WQ:=[]){y:(Nat->Aa)->(Nat->Oc)->(Nat->WQ)->(List Aa->Nat->Aa)->((List Aa->IT)->(List Aa->IT)->Dm->List Aa->IT)->(Nat->(List Aa->IT)->(List Aa->IT)->Dm->List Aa->IT)->(Dm->IT->(Nat->IT)->IT->IT)->(Nat->Nat->IT->IT->IT)->IT}{w:Aa->IT}
 (h1:∀z zo zm G nk lk M J,dA n z zo zm G nk lk M J=y z zo zm G nk lk M J:=by intro z zo zm G nk lk M J;conv=>lhs;reduce)
 (h2:∀p,y (KZ [p] k) (nthP o) (nthM m) g nx lx wayX wayI=w p:=by intro p;conv=>lhs;(try dsimp only[KZ,wayX,wayI,nthV,nthP,nthM,apV,zT,zI,zN,zA]))
 (h0:∀p,B8 cx f [p]=dA n (KZ [p] k) (nthP o) (nthM m) g nx lx wayX wayI:=by intro p;kernel_rfl):∀p,B8 cx f [p]=w p:=λp=>(h0 p).trans ((h1 ..).trans (h2 p))
def DN(f:FuncId)(n:Nat)(k:List Aa:=[])(o:List Oc:=[])(m:List WQ:=[]){y:(Nat->Aa)->(Nat->Oc)->(Nat->WQ)->(List Aa->Nat->Aa)->((List Aa->IT)->(List Aa->IT)->Dm->List Aa->IT)->(Nat->(List Aa->IT)->(List Aa->IT)->Dm->List Aa->IT)->(Dm->IT->(Nat->IT)->IT->IT)->(Nat->Nat->IT->IT->IT)->IT}{w:Aa->Aa->IT}
 (h1:∀z zo zm G nk lk M J,dA n z zo zm G nk lk M J=y z zo zm G nk lk M J:=by intro z zo zm G nk lk M J;conv=>lhs;reduce)
 (h2:∀p q,y (KZ [p,q] k) (nthP o) (nthM m) g nx lx wayX wayI=w p q:=by intro p q;conv=>lhs;(try dsimp only[KZ,wayX,wayI,nthV,nthP,nthM,apV,zT,zI,zN,zA]))
 (h0:∀p q,B8 cx f [p,q]=dA n (KZ [p,q] k) (nthP o) (nthM m) g nx lx wayX wayI:=by intro p q;kernel_rfl):∀p q,B8 cx f [p,q]=w p q:=λp q=>(h0 p q).trans ((h1 ..).trans (h2 p q))
def MA(f:FuncId)(n:Nat)(k:List Aa:=[])(o:List Oc:=[])(m:List WQ:=[]){y:(Nat->Aa)->(Nat->Oc)->(Nat->WQ)->(List Aa->Nat->Aa)->((List Aa->IT)->(List Aa->IT)->Dm->List Aa->IT)->(Nat->(List Aa->IT)->(List Aa->IT)->Dm->List Aa->IT)->(Dm->IT->(Nat->IT)->IT->IT)->(Nat->Nat->IT->IT->IT)->IT}{w:Aa->Aa->Aa->IT}
 (h1:∀z zo zm G nk lk M J,dA n z zo zm G nk lk M J=y z zo zm G nk lk M J:=by intro z zo zm G nk lk M J;conv=>lhs;reduce)
 (h2:∀p q r,y (KZ [p,q,r] k) (nthP o) (nthM m) g nx lx wayX wayI=w p q r:=by intro p q r;conv=>lhs;(try dsimp only[KZ,wayX,wayI,nthV,nthP,nthM,apV,zT,zI,zN,zA]))
 (h0:∀p q r,B8 cx f [p,q,r]=dA n (KZ [p,q,r] k) (nthP o) (nthM m) g nx lx wayX wayI:=by intro p q r;kernel_rfl):∀p q r,B8 cx f [p,q,r]=w p q r:=λp q r=>(h0 p q r).trans ((h1 ..).trans (h2 p q r))
def ľ(f:FuncId)(n:Nat)(k:List Aa:=[])(o:List Oc:=[])(m:List WQ:=[]){y:(Nat->Aa)->(Nat->Oc)->(Nat->WQ)->(List Aa->Nat->Aa)->((List Aa->IT)->(List Aa->IT)->Dm->List Aa->IT)->(Nat->(List Aa->IT)->(List Aa->IT)->Dm->List Aa->IT)->(Dm->IT->(Nat->IT)->IT->IT)->(Nat->Nat->IT->IT->IT)->IT}{w:Aa->Aa->Aa->Aa->IT}
 (h1:∀z zo zm G nk lk M J,dA n z zo zm G nk lk M J=y z zo zm G nk lk M J:=by intro z zo zm G nk lk M J;conv=>lhs;reduce)
 (h2:∀p q r u,y (KZ [p,q,r,u] k) (nthP o) (nthM m) g nx lx wayX wayI=w p q r u:=by intro p q r u;conv=>lhs;(try dsimp only[KZ,wayX,wayI,nthV,nthP,nthM,apV,zT,zI,zN,zA]))
 (h0:∀p q r u,B8 cx f [p,q,r,u]=dA n (KZ [p,q,r,u] k) (nthP o) (nthM m) g nx lx wayX wayI:=by intro p q r u;kernel_rfl):∀p q r u,B8 cx f [p,q,r,u]=w p q r u:=λp q r u=>(h0 p q r u).trans ((h1 ..).trans (h2 p q r u))
end Go.Am
