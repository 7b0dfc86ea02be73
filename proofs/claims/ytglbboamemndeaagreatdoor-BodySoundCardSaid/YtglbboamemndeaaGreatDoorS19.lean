/- Lemmas -/
import Derived.Test.YtglbboamemndeaaGreatDoorS9
import Derived.Test.YtglbboamemndeaaGreatDoorS17
set_option linter.all false
namespace Go.Am
open Go
def nthV:List Aa->Nat->Aa
 |[],_=> .nilIface
 |x::_,0=>x
 |_::l,n+1=>nthV l n
def nthP:List Rz->Nat->Rz
 |[],_=> .I6
 |x::_,0=>x
 |_::l,n+1=>nthP l n
def nthM:List kM->Nat->kM
 |[],_=> .gx
 |x::_,0=>x
 |_::l,n+1=>nthM l n
def nthL:List (List Aa)->Nat->List Aa
 |[],_=>[]
 |x::_,0=>x
 |_::l,n+1=>nthL l n
def allG(G:Nat->Aa):Nat->Nat->List Aa
 |0,_=>[]
 |n+1,i=>G i::allG G n (Nat.succ i)
def dL{T:Type}(n:Nat)(k:Nat->Nat->T):T:=match Nat.mod n 2 with
 |0=>k (Nat.mod (Nat.div n 2) 256) (Nat.div n 512)
 |_=>k (Nat.mod (Nat.div n 2) 16384) (Nat.div n 32768)
section
variable(z:Nat->Aa)(zo:Nat->Rz)(zm:Nat->kM)(G:List Aa->Nat->Aa)(nk:(List Aa->IT)->(List Aa->IT)->DV->List Aa->IT)(lk:Nat->(List Aa->IT)->(List Aa->IT)->DV->List Aa->IT)(MX:DV->IT->(Nat->IT)->IT->IT)(IX:Nat->Nat->IT->IT->IT)
def dV(e:List Aa)(c:List (List Aa)):Nat->Nat->Nat->(List Aa->Nat->IT)->IT
 |0,_,_,_=> .fail
 |_+1,0,n,k=>k [] n
 |u+1,w+1,n,k=>match Nat.mod n 4 with
  |0=>dV e c u w (Nat.div n 4) λl r=>k (nthV e 0::l) r
  |1=>dV e c u w (Nat.div n 16) λl r=>k (z (Nat.add 24 (Nat.mod (Nat.div n 4) 4))::l) r
  |2=>match Nat.mod (Nat.div n 4) 8 with
   |7=>dV e c u w (Nat.div n 2048) λl r=>k (z (Nat.add 7 (Nat.mod (Nat.div n 32) 64))::l) r
   |j=>dV e c u w (Nat.div n 32) λl r=>k (z j::l) r
  |_=>match Nat.mod (Nat.div n 4) 2 with
   |0=>dV e c u w (Nat.div n 256) λl r=>k (G (nthL c (Nat.mod (Nat.div n 8) 2)) (Nat.mod (Nat.div n 16) 16)::l) r
   |_=>match Nat.mod (Nat.div n 8) 4 with
    |0=>dV e c u w (Nat.div n 2048) λl r=>k (nthV e (Nat.succ (Nat.mod (Nat.div n 32) 64))::l) r
    |1=>dV e c u w (Nat.div n 4096) λl r=>k (G (nthL c (Nat.add 2 (Nat.mod (Nat.div n 32) 8))) (Nat.mod (Nat.div n 256) 16)::l) r
    |2=>match Nat.mod (Nat.div n 32) 4 with
     |0=>dV e c u (Nat.mod (Nat.div n 128) 16) (Nat.div n 2048) λl r=>dV e c u w r λa r2=>k (.agg l::a) r2
     |1=>dV e c u (Nat.mod (Nat.div n 128) 16) (Nat.div n 2048) λl r=>dV e c u w r λa r2=>k (.tuple l::a) r2
     |2=>dV e c u (Nat.mod (Nat.div n 128) 16) (Nat.div n 2097152) λl r=>dV e c u w r λa r2=>k (.func (.func (Nat.mod (Nat.div n 2048) 1024)) [] l::a) r2
     |_=>dV e c u (Nat.mod (Nat.div n 128) 16) (Nat.div n 2048) λl r=>dV e c u w r λa r2=>k (.Cu l::a) r2
    |_=>dV e c u w (Nat.div n 2048) λl r=>k (.agg (allG (G (nthL c (Nat.mod (Nat.div n 32) 4))) (Nat.mod (Nat.div n 128) 16) 0)::l) r
def dP(n:Nat)(k:Rz->Nat->Nat->IT):IT:=match Nat.mod n 16 with
 |0=>k (.int .eql) 2 (Nat.div n 16)
 |1=>k (.str .eql) 2 (Nat.div n 16)
 |2=>k (.len false) 1 (Nat.div n 16)
 |3=>k (.un .not) 1 (Nat.div n 16)
 |4=>k (.int .lss) 2 (Nat.div n 16)
 |5=>k (.int .add) 2 (Nat.div n 16)
 |6=>k (.DX 1) (Nat.mod (Nat.div n 16) 16) (Nat.div n 256)
 |7=>k (.int .neq) 2 (Nat.div n 16)
 |8=>k (.int .sub) 2 (Nat.div n 16)
 |9=>k (.FG (Nat.mod (Nat.div n 16) 16)) 2 (Nat.div n 256)
 |10=>k (.ext (Nat.mod (Nat.div n 16) 4)) 1 (Nat.div n 64)
 |11=>k (.int .geq) 2 (Nat.div n 16)
 |12=>k (.append (Nat.mod (Nat.div n 16) 16) (Nat.mod (Nat.div n 256) 256)) 2 (Nat.div n 65536)
 |13=>k (zo (Nat.mod (Nat.div n 16) 8)) (Nat.mod (Nat.div n 128) 16) (Nat.div n 2048)
 |14=>match Nat.mod (Nat.div n 16) 16 with
  |0=>k (.int .gtr) 2 (Nat.div n 256)
  |1=>k (.int .leq) 2 (Nat.div n 256)
  |2=>k (.len true) 1 (Nat.div n 256)
  |3=>k (.Ė true) 2 (Nat.div n 256)
  |4=>k (.Ė false) 2 (Nat.div n 256)
  |5=>k .I6 1 (Nat.div n 256)
  |6=>k .YA 2 (Nat.div n 256)
  |7=>k (.str .add) 2 (Nat.div n 256)
  |8=>k (.str .neq) 2 (Nat.div n 256)
  |9=>k (.conv .u8) 1 (Nat.div n 256)
  |10=>k (.conv .i32) 1 (Nat.div n 256)
  |11=>k (.int .or) 2 (Nat.div n 256)
  |12=>k (.int .and) 2 (Nat.div n 256)
  |_=>k .YB 1 (Nat.div n 256)
 |_=>match Nat.mod (Nat.div n 16) 2 with
  |0=>k (.DX (Nat.mod (Nat.div n 32) 16)) (Nat.mod (Nat.div n 512) 16) (Nat.div n 8192)
  |_=>k (.KI (Nat.mod (Nat.div n 32) 16)) 1 (Nat.div n 512)
def dK(n:Nat)(k:Nat->Nat->IT):IT:=match Nat.mod n 4 with
 |0=>k (Nat.mod (Nat.div n 4) 1024) (Nat.div n 4096)
 |1=>k (Nat.add 100000 (Nat.mod (Nat.div n 4) 1024)) (Nat.div n 4096)
 |2=>k (Nat.add 200000 (Nat.mod (Nat.div n 4) 1024)) (Nat.div n 4096)
 |_=>k (Nat.add 300000 (Nat.mod (Nat.div n 4) 1024)) (Nat.div n 4096)
def dC(D:Nat->List Aa->DV->IT)(n:Nat):DV->List Aa->IT:=match Nat.mod n 4 with
 |0=>dL (Nat.div n 4) λL m=>nk (λv=>D m v .normal) (λv=>D (Nat.shiftRight m L) v .normal)
 |1=>dL (Nat.div n 64) λL m=>lk (Nat.mod (Nat.div n 4) 16) (λv=>D m v .normal) (λv=>D (Nat.shiftRight m L) v .normal)
 |_=>λy v=>D (Nat.div n 4) v y
def dT:Nat->Nat->List Aa->List (List Aa)->DV->Nat->IT
 |0,_,_,_,_,_=> .fail
 |u+1,n,e,c,x,i=>match Nat.mod n 8 with
  |0=>dV z G e c u 1 (Nat.div n 8) λl _=> .ret .ret l
  |1=>dV z G e c u (Nat.mod (Nat.div n 8192) 8) (Nat.div n 65536) λl r=> .call (Nat.mod (Nat.div n 8) 1024) l λv=>dT u r (v::e) c x i
  |2=>dV z G e c u 1 (Nat.div n 8) λl r=>dL r λL m=> .FH (nthV l 0) (dT u m e c x i) (dT u (Nat.shiftRight m L) e c x i)
  |3=>dP zo (Nat.div n 8) λp w m=>dV z G e c u w m λl r=> .op p l λv=>dT u r (v::e) c x i
  |4=>dV z G e c u 1 (Nat.div n 256) λl r=> .op .I6 [nthV l 0] λa=> .op (.KI (Nat.mod (Nat.div n 8) 32)) [a] λy=> .load none y λv=>dT u r (v::y::a::e) c x i
  |5=>dV z G e c u 1 (Nat.div n 256) λl r=> .op .I6 [nthV l 0] λa=> .op (.KI (Nat.mod (Nat.div n 8) 32)) [a] λv=>dT u r (v::a::e) c x i
  |6=>dV z G e c u 1 (Nat.div n 128) λl r=> .cells (Nat.mod (Nat.div n 8) 16) (nthV l 0) λv=>dT u r e (v::c) x i
  |_=>match Nat.mod (Nat.div n 8) 32 with
   |0=>dV z G e c u (Nat.mod (Nat.div n 256) 16) (Nat.div n 4096) λl _=> .ret .normal l
   |1=>dV z G e c u (Nat.mod (Nat.div n 4096) 16) (Nat.div n 65536) λl _=> .ret (.exit (Nat.mod (Nat.div n 256) 16)) l
   |2=>dV z G e c u 1 (Nat.div n 256) λl r=> .load none (nthV l 0) λv=>dT u r (v::e) c x i
   |3=>dV z G e c u 1 (Nat.div n 4096) λl r=> .load (some (Nat.mod (Nat.div n 256) 16)) (nthV l 0) λv=>dT u r (v::e) c x i
   |4=>dV z G e c u 2 (Nat.div n 4096) λl r=> .store (Nat.mod (Nat.div n 256) 16) (nthV l 0) (nthV l 1) (dT u r e c x i)
   |5=>dV z G e c u 1 (Nat.div n 16384) λl r=> .alloc (Nat.mod (Nat.div n 256) 64) (nthV l 0) λv=>dT u r (v::e) c x i
   |6=>dK (Nat.div n 256) λf m=>dV z G e c u (Nat.mod m 16) (Nat.div m 16) λl r=> .call f l λv=>dT u r (v::e) c x i
   |7=>dV z G e c u (Nat.mod (Nat.div n 262144) 16) (Nat.div n 4194304) λl r=> .Cb (Nat.mod (Nat.div n 256) 1024) l λv=>dT u r (v::e) c x i
   |8=>dV z G e c u (Nat.succ (Nat.mod (Nat.div n 256) 16)) (Nat.div n 4096) λl r=> .Iz (nthV l 0) l.tail λv=>dT u r (v::e) c x i
   |9=>dK (Nat.div n 256) λf m=>dV z G e c u (Nat.mod m 16) (Nat.div m 16) λl r=>dL r λL m=> .loop f l (λv=>dT u m e (v::c) x i) (dC nk lk (λq v y=>dT u q e (v::c) y i) (Nat.shiftRight m L))
   |10=>dK (Nat.div n 256) λf r=>dL r λL m=> .OR f (dT u m e c x i) (dC nk lk (λq v y=>dT u q e (v::c) y i) (Nat.shiftRight m L))
   |11=>dV z G e c u 2 (Nat.div n 256) λl r=> .same (nthV l 0) (nthV l 1) (dT u r e c x i)
   |12=> .fail
   |13=>dV z G e c u 1 (Nat.div n 8192) λl r=> .op (.KI (Nat.mod (Nat.div n 256) 32)) [nthV l 0] λy=> .load none y λv=>dT u r (v::y::e) c x i
   |14=>dV z G e c u (Nat.mod (Nat.div n 4096) 16) (Nat.div n 65536) λl r=> .mem (zm (Nat.mod (Nat.div n 256) 16)) l λv=>dT u r (v::e) c x i
   |15=>dV z G e c u 3 (Nat.div n 256) λl r=> .Kc (nthV l 0) (nthV l 1) (nthV l 2) (dT u r e c x i)
   |16=>dV z G e c u 1 (Nat.div n 256) λl r=> .UD (nthV l 0) λv=>dT u r (v::e) c x i
   |17=>dV z G e c u 1 (Nat.div n 4096) λl r=> .O2 (Nat.mod (Nat.div n 256) 16) (nthV l 0) (dT u r e c x i)
   |18=>dV z G e c u 2 (Nat.div n 1048576) λl r=> .ID (Nat.mod (Nat.div n 256) 16) (Nat.mod (Nat.div n 4096) 256) (nthV l 0) (nthV l 1) λv=>dT u r (v::e) c x i
   |19=>dV z G e c u 2 (Nat.div n 1048576) λl r=> .KJ (Nat.mod (Nat.div n 256) 16) (Nat.mod (Nat.div n 4096) 256) (nthV l 0) (nthV l 1) λv=>dT u r (v::e) c x i
   |20=> .O1 λv=>dT u (Nat.div n 256) (v::e) c x i
   |21=>dV z G e c u (Nat.mod (Nat.div n 256) 16) (Nat.div n 4096) λl _=> .ret x l
   |22=>dV z G e c u (Nat.mod (Nat.div n 256) 16) (Nat.div n 4096) λl _=> .ret (.exit i) l
   |23=>dL (Nat.div n 256) λL r=>dL r λM m=>MX x (dT u m e c x i) (λj=>dT u (Nat.shiftRight m L) e c x j) (dT u (Nat.shiftRight m M) e c x i)
   |24=>dL (Nat.div n 4096) λL m=>IX i (Nat.mod (Nat.div n 256) 16) (dT u m e c x i) (dT u (Nat.shiftRight m L) e c x i)
   |25=>dV z G e c u (Nat.mod (Nat.div n 256) 16) (Nat.div n 4096) λl _=> .ret .ret l
   |_=> .fail
end
def dA(n:Nat)(z:Nat->Aa)(zo:Nat->Rz)(zm:Nat->kM)(G:List Aa->Nat->Aa)(nk:(List Aa->IT)->(List Aa->IT)->DV->List Aa->IT)(lk:Nat->(List Aa->IT)->(List Aa->IT)->DV->List Aa->IT)(MX:DV->IT->(Nat->IT)->IT->IT)(IX:Nat->Nat->IT->IT->IT):IT:=dT z zo zm G nk lk MX IX 4000 n [] [] .normal 0
def wayX(x:DV)(A:IT)(E:Nat->IT)(R:IT):IT:=match x with
 | .normal=>A
 | .exit i=>E i
 | .ret=>R
def wayI(i k:Nat)(A B:IT):IT:=if i=k then A else B
def apV:List Aa->List Aa->List Aa
 |[],k=>k
 |x::l,k=>x::apV l k
def K9(l k:List Aa)(i:Nat):Aa:=nthV (ff::I 0:: .tuple []::I 1::tt:: .slnil::I 3::I 2::I 4:: .ptr none::I (-1)::I 9::I 7::I 6::I 5::S []::I 8::I 17::I 13::I 18::I 10::I 12::I 14::I 15::apV l k) i
def rd(f:FuncId)(l:List Aa)(n:Nat)(k:List Aa:=[])(o:List Rz:=[])(m:List kM:=[]){y:(Nat->Aa)->(Nat->Rz)->(Nat->kM)->(List Aa->Nat->Aa)->((List Aa->IT)->(List Aa->IT)->DV->List Aa->IT)->(Nat->(List Aa->IT)->(List Aa->IT)->DV->List Aa->IT)->(DV->IT->(Nat->IT)->IT->IT)->(Nat->Nat->IT->IT->IT)->IT}{w:IT}
 (h1:∀z zo zm G nk lk M J,dA n z zo zm G nk lk M J=y z zo zm G nk lk M J:=by intro z zo zm G nk lk M J;conv=>lhs;reduce)
 (h2:y (K9 l k) (nthP o) (nthM m) g nx lx wayX wayI=w:=by conv=>lhs;(try dsimp only[K9,wayX,wayI,nthV,nthP,nthM,apV]))
 (h0:BZ cx f l=dA n (K9 l k) (nthP o) (nthM m) g nx lx wayX wayI:=by kernel_rfl):BZ cx f l=w:=h0.trans ((h1 ..).trans h2)
end Go.Am
