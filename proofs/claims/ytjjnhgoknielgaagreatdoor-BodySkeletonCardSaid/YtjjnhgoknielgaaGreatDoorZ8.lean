/- Lemmas -/
import Derived.Test.YtjjnhgoknielgaaGreatDoorZ1
set_option linter.all false
namespace Go.Am
open Go
mutual
def Aa.still:Aa->Bool
 | .ptr (some _)| .Dn _ _ _ _| .map (some _)=>false
 | .B9 cs| .agg cs| .tuple cs=>J8 cs
 | .sl _ Ax=>NN Ax
 | .func _ a b=>J8 a&&J8 b
 | .iface _ v=>Aa.still v
 |_=>true
def J8:List Aa->Bool
 |[]=>true
 |a::l=>Aa.still a&&J8 l
def NN:List (List Aa)->Bool
 |[]=>true
 |a::l=>J8 a&&NN l
end
def nj(h:Ai):List Aa->Option (Ai×Aa)
 |[.ptr (some (id,0)),.int .i64 x]=>match h[id]? with
  |some (.cells (.Dn d off n 13::_))=>match h[d]? with
   |some (.cells cs)=>if 1<=x/\x<=n/\off+n*13<=cs.length then
     match(cs.drop (off+(x.toNat-1)*13)).take 13 with
     |[p,o,q,l,k,j,i,g,f,e,lG,.int .i64 c,a]=>
      if J8 [p,o,l,k,j,i,g,f,e,lG,a] then
       match q with
       | .slnil=>some (h,.tuple [.B9 [p,o,.slnil,l,k,j,i,g,f,e,lG,.int .i64 c,a],.int .i64 c,.sl 1 []])
       | .Dn N7 b m 1=>match h[N7]? with
        |some (.cells ks)=>if b+m*1<=ks.length/\NN (CG ks 1 b m)=true then
         some (h,.tuple [.B9 [p,o,.sl 1 (CG ks 1 b m),l,k,j,i,g,f,e,lG,.int .i64 c,a],.int .i64 c,.sl 1 (CG ks 1 b m)]) else none
        |_=>none
       |_=>none
      else none
     |_=>none
    else none
   |_=>none
  |_=>none
 |_=>none
def Ij(line:FuncId)(a:Aa):Nat->Int->Nat->Ah->(Ah->IT)->IT
 |0,_,_,_,_=> .fail
 |fuel+1,x,d,D7,k=> .mem (.Xl nj) [a,.int .i64 x] λr=>match r with
  | .tuple [.B9 row,.int _ c,.sl _ Bm]=> .wJ line [.B9 row] λln=>match ln with
   | .str s=>
    let e:=D7++List.replicate (2*d) 32++s++[10]
    let b:Ah->IT:=Bm.foldr (λN7 K D7=>match N7 with
     |[.int .i64 y]=>Ij line a fuel y (d+1) D7 K
     |_=> .fail) k
    if e.length<=AV then(if c=0 then b e else Ij line a fuel c (d+1) e b) else .fail
   |_=> .fail
  |_=> .fail
def xP(line:FuncId):List Aa->IT
 |[a,.int .i64 x]=>Ij line a 100 x 0 [] λD7=> .ret .ret [.str D7]
 |_=> .fail
def Hd(cs:List Aa)(off:Nat)(h:Int)(k:Nat):Option Int:=
 match cs[off+(h.toNat-1)*13+k]? with
 |some (.int .i64 n)=>some n
 |_=>none
def MF(cs:List Aa)(off n:Nat)(up:Int):Nat->Int->Option Bool
 |_,0=>some false
 |0,_=>none
 |fuel+1,h=>if h=up then some true else if 1<=h/\h<=n then
   match Hd cs off h 1,Hd cs off h 12 with
   |some p,some q=>MF cs off n up fuel (if p=0 then q else p)
   |_,_=>none
  else none
def Ot(h:Ai):List Aa->Option (Ai×Aa)
 |[.ptr (some (id,0)),.int .i64 up,.int .i64 x]=>match h[id]? with
  |some (.cells (.slnil::_))=>some (h,.bool false)
  |some (.cells (.Dn a off n 13::_))=>match h[a]? with
   |some (.cells cs)=>if off+n*13<=cs.length then
    (if 1<=up/\up<=n/\1<=x/\x<=n then(MF cs off n up (n+1) x).map λb=>(h,.bool b) else some (h,.bool false)) else none
   |_=>none
  |_=>none
 |_=>none
def Ou(args:List Aa):IT:= .mem (.Xl Ot) args λr=> .ret .ret [r]
def rW(t:TypeId)(h:Ai):List Aa->Option (Ai×Aa)
 |[.iface t' v]=>if t'=t then some (h,v) else none
 |_=>none
def X9(make method:FuncId)(t:TypeId):List Aa->IT
 |[.ptr (some (id,0)),s]=> .load (some 3) (.ptr (some (id,0))) λv=> .same v (.agg [.int .u32 0,.int .i32 0,.int .u32 0]) (
  .store 1 (.ptr (some (id,1))) (.int .i32 1) (
  .call make [.ptr (some (id,0))] λ_=>
  .load (some 3) (.ptr (some (id,0))) λv=> .same v (.agg [.int .u32 0,.int .i32 1,.int .u32 0]) (
  .store 1 (.ptr (some (id,0))) (.int .u32 1) (
  .store 1 (.ptr (some (id,1))) (.int .i32 0) (
  .load none (.ptr (some (id,3))) λv=> .mem (.Xl (rW t)) [v] λu=> .call method [u,s] λr=> .ret .ret [r])))))
 |_=> .fail
end Go.Am
