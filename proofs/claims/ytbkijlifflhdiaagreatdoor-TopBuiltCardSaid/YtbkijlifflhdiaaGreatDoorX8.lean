/- Lemmas -/
import Derived.Test.YtbkijlifflhdiaaGreatDoorX1
set_option linter.all false
namespace Go.Am
open Go
mutual
def Aa.still:Aa->Bool
 | .ptr (some _)| .CL _ _ _ _| .map (some _)=>false
 | .Cz cs| .agg cs| .tuple cs=>Ii cs
 | .sl _ Ao=>Lm Ao
 | .func _ a b=>Ii a&&Ii b
 | .iface _ v=>Aa.still v
 |_=>true
def Ii:List Aa->Bool
 |[]=>true
 |a::l=>Aa.still a&&Ii l
def Lm:List (List Aa)->Bool
 |[]=>true
 |a::l=>Ii a&&Lm l
end
def nK(h:Ah):List Aa->Option (Ah×Aa)
 |[.ptr (some (id,0)),.int .i64 x]=>match h[id]? with
  |some (.cells (.CL b off n 13::_))=>match h[b]? with
   |some (.cells cs)=>if 1<=x/\x<=n/\off+n*13<=cs.length then
     match(cs.drop (off+(x.toNat-1)*13)).take 13 with
     |[o,l,p,k,j,i,g,f,e,d,YO,.int .i64 c,k_]=>
      if Ii [o,l,k,j,i,g,f,e,d,YO,k_] then
       match p with
       | .slnil=>some (h,.tuple [.Cz [o,l,.slnil,k,j,i,g,f,e,d,YO,.int .i64 c,k_],.int .i64 c,.sl 1 []])
       | .CL IG a m 1=>match h[IG]? with
        |some (.cells ks)=>if a+m*1<=ks.length/\Lm (Cg ks 1 a m)=true then
         some (h,.tuple [.Cz [o,l,.sl 1 (Cg ks 1 a m),k,j,i,g,f,e,d,YO,.int .i64 c,k_],.int .i64 c,.sl 1 (Cg ks 1 a m)]) else none
        |_=>none
       |_=>none
      else none
     |_=>none
    else none
   |_=>none
  |_=>none
 |_=>none
def GR(line:FuncId)(a:Aa):Nat->Int->Nat->Aq->(Aq->IT)->IT
 |0,_,_,_,_=> .fail
 |fuel+1,x,d,Dq,k=> .mem (.Td nK) [a,.int .i64 x] λr=>match r with
  | .tuple [.Cz row,.int _ c,.sl _ AT]=> .qO line [.Cz row] λln=>match ln with
   | .str s=>
    let e:=Dq++List.replicate (2*d) 32++s++[10]
    let b:Aq->IT:=AT.foldr (λIG K Dq=>match IG with
     |[.int .i64 y]=>GR line a fuel y (d+1) Dq K
     |_=> .fail) k
    if e.length<=AQ then(if c=0 then b e else GR line a fuel c (d+1) e b) else .fail
   |_=> .fail
  |_=> .fail
def iZ(line:FuncId):List Aa->IT
 |[a,.int .i64 x]=>GR line a 100 x 0 [] λDq=> .ret .ret [.str Dq]
 |_=> .fail
def F5(cs:List Aa)(off:Nat)(h:Int)(k:Nat):Option Int:=
 match cs[off+(h.toNat-1)*13+k]? with
 |some (.int .i64 n)=>some n
 |_=>none
def Ki(cs:List Aa)(off n:Nat)(up:Int):Nat->Int->Option Bool
 |_,0=>some false
 |0,_=>none
 |fuel+1,h=>if h=up then some true else if 1<=h/\h<=n then
   match F5 cs off h 1,F5 cs off h 12 with
   |some p,some q=>Ki cs off n up fuel (if p=0 then q else p)
   |_,_=>none
  else none
def Mb(h:Ah):List Aa->Option (Ah×Aa)
 |[.ptr (some (id,0)),.int .i64 up,.int .i64 x]=>match h[id]? with
  |some (.cells (.slnil::_))=>some (h,.bool false)
  |some (.cells (.CL a off n 13::_))=>match h[a]? with
   |some (.cells cs)=>if off+n*13<=cs.length then
    (if 1<=up/\up<=n/\1<=x/\x<=n then(Ki cs off n up (n+1) x).map λb=>(h,.bool b) else some (h,.bool false)) else none
   |_=>none
  |_=>none
 |_=>none
def Mc(args:List Aa):IT:= .mem (.Td Mb) args λr=> .ret .ret [r]
def dH(t:TypeId)(h:Ah):List Aa->Option (Ah×Aa)
 |[.iface t' v]=>if t'=t then some (h,v) else none
 |_=>none
def T4(make method:FuncId)(t:TypeId):List Aa->IT
 |[.ptr (some (id,0)),s]=> .load (some 3) (.ptr (some (id,0))) λv=> .same v (.agg [.int .u32 0,.int .i32 0,.int .u32 0]) (
  .store 1 (.ptr (some (id,1))) (.int .i32 1) (
  .call make [.ptr (some (id,0))] λ_=>
  .load (some 3) (.ptr (some (id,0))) λv=> .same v (.agg [.int .u32 0,.int .i32 1,.int .u32 0]) (
  .store 1 (.ptr (some (id,0))) (.int .u32 1) (
  .store 1 (.ptr (some (id,1))) (.int .i32 0) (
  .load none (.ptr (some (id,3))) λv=> .mem (.Td (dH t)) [v] λu=> .call method [u,s] λr=> .ret .ret [r])))))
 |_=> .fail
def nL(x:Int):Bool:=decide (-9223372036854775808<=x)&&decide (x<9223372036854775808)
end Go.Am
