/- Lemmas -/
import Derived.Test.YtjjnhgoknielgaaGreatDoorW1
set_option linter.all false
namespace Go.Am
open Go
mutual
def Ab.still:Ab->Bool
 | .ptr (some _)| .Du _ _ _ _| .map (some _)=>false
 | .Cd cs| .agg cs| .tuple cs=>Kl cs
 | .sl _ Ay=>N1 Ay
 | .func _ a b=>Kl a&&Kl b
 | .iface _ v=>Ab.still v
 |_=>true
def Kl:List Ab->Bool
 |[]=>true
 |a::l=>Ab.still a&&Kl l
def N1:List (List Ab)->Bool
 |[]=>true
 |a::l=>Kl a&&N1 l
end
def qt(h:Ai):List Ab->Option (Ai×Ab)
 |[.ptr (some (id,0)),.int .i64 x]=>match h[id]? with
  |some (.cells (.Du d off n 13::_))=>match h[d]? with
   |some (.cells cs)=>if 1<=x/\x<=n/\off+n*13<=cs.length then
     match(cs.drop (off+(x.toNat-1)*13)).take 13 with
     |[p,o,q,l,k,j,i,g,f,e,mT,.int .i64 c,a]=>
      if Kl [p,o,l,k,j,i,g,f,e,mT,a] then
       match q with
       | .slnil=>some (h,.tuple [.Cd [p,o,.slnil,l,k,j,i,g,f,e,mT,.int .i64 c,a],.int .i64 c,.sl 1 []])
       | .Du Ok b m 1=>match h[Ok]? with
        |some (.cells ks)=>if b+m*1<=ks.length/\N1 (CI ks 1 b m)=true then
         some (h,.tuple [.Cd [p,o,.sl 1 (CI ks 1 b m),l,k,j,i,g,f,e,mT,.int .i64 c,a],.int .i64 c,.sl 1 (CI ks 1 b m)]) else none
        |_=>none
       |_=>none
      else none
     |_=>none
    else none
   |_=>none
  |_=>none
 |_=>none
def IA(line:FuncId)(a:Ab):Nat->Int->Nat->Ah->(Ah->IT)->IT
 |0,_,_,_,_=> .fail
 |fuel+1,x,d,D8,k=> .mem (.XC qt) [a,.int .i64 x] λr=>match r with
  | .tuple [.Cd row,.int _ c,.sl _ Bi]=> .yJ line [.Cd row] λln=>match ln with
   | .str s=>
    let e:=D8++List.replicate (2*d) 32++s++[10]
    let b:Ah->IT:=Bi.foldr (λOk K D8=>match Ok with
     |[.int .i64 y]=>IA line a fuel y (d+1) D8 K
     |_=> .fail) k
    if e.length<=AY then(if c=0 then b e else IA line a fuel c (d+1) e b) else .fail
   |_=> .fail
  |_=> .fail
def zK(line:FuncId):List Ab->IT
 |[a,.int .i64 x]=>IA line a 100 x 0 [] λD8=> .ret .ret [.str D8]
 |_=> .fail
def Ho(cs:List Ab)(off:Nat)(h:Int)(k:Nat):Option Int:=
 match cs[off+(h.toNat-1)*13+k]? with
 |some (.int .i64 n)=>some n
 |_=>none
def MN(cs:List Ab)(off n:Nat)(up:Int):Nat->Int->Option Bool
 |_,0=>some false
 |0,_=>none
 |fuel+1,h=>if h=up then some true else if 1<=h/\h<=n then
   match Ho cs off h 1,Ho cs off h 12 with
   |some p,some q=>MN cs off n up fuel (if p=0 then q else p)
   |_,_=>none
  else none
def OI(h:Ai):List Ab->Option (Ai×Ab)
 |[.ptr (some (id,0)),.int .i64 up,.int .i64 x]=>match h[id]? with
  |some (.cells (.slnil::_))=>some (h,.bool false)
  |some (.cells (.Du a off n 13::_))=>match h[a]? with
   |some (.cells cs)=>if off+n*13<=cs.length then
    (if 1<=up/\up<=n/\1<=x/\x<=n then(MN cs off n up (n+1) x).map λb=>(h,.bool b) else some (h,.bool false)) else none
   |_=>none
  |_=>none
 |_=>none
def OJ(args:List Ab):IT:= .mem (.XC OI) args λr=> .ret .ret [r]
def tY(t:TypeId)(h:Ai):List Ab->Option (Ai×Ab)
 |[.iface t' v]=>if t'=t then some (h,v) else none
 |_=>none
def Yr(make method:FuncId)(t:TypeId):List Ab->IT
 |[.ptr (some (id,0)),s]=> .load (some 3) (.ptr (some (id,0))) λv=> .same v (.agg [.int .u32 0,.int .i32 0,.int .u32 0]) (
  .store 1 (.ptr (some (id,1))) (.int .i32 1) (
  .call make [.ptr (some (id,0))] λ_=>
  .load (some 3) (.ptr (some (id,0))) λv=> .same v (.agg [.int .u32 0,.int .i32 1,.int .u32 0]) (
  .store 1 (.ptr (some (id,0))) (.int .u32 1) (
  .store 1 (.ptr (some (id,1))) (.int .i32 0) (
  .load none (.ptr (some (id,3))) λv=> .mem (.XC (tY t)) [v] λu=> .call method [u,s] λr=> .ret .ret [r])))))
 |_=> .fail
end Go.Am
