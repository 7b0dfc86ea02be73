/- Lemmas -/
import Derived.Test.YtglbboamemndeaaGreatDoorS1
set_option linter.all false
namespace Go.Am
open Go
mutual
def Aa.still:Aa->Bool
 | .ptr (some _)| .CT _ _ _ _| .map (some _)=>false
 | .Cu cs| .agg cs| .tuple cs=>I9 cs
 | .sl _ Av=>Mw Av
 | .func _ a b=>I9 a&&I9 b
 | .iface _ v=>Aa.still v
 |_=>true
def I9:List Aa->Bool
 |[]=>true
 |a::l=>Aa.still a&&I9 l
def Mw:List (List Aa)->Bool
 |[]=>true
 |a::l=>I9 a&&Mw l
end
def au(h:Ai):List Aa->Option (Ai×Aa)
 |[.ptr (some (id,0)),.int .i64 x]=>match h[id]? with
  |some (.cells (.CT b off n 13::_))=>match h[b]? with
   |some (.cells cs)=>if 1<=x/\x<=n/\off+n*13<=cs.length then
     match(cs.drop (off+(x.toNat-1)*13)).take 13 with
     |[o,l,p,k,j,i,g,f,e,d,kI,.int .i64 c,â]=>
      if I9 [o,l,k,j,i,g,f,e,d,kI,â] then
       match p with
       | .slnil=>some (h,.tuple [.Cu [o,l,.slnil,k,j,i,g,f,e,d,kI,.int .i64 c,â],.int .i64 c,.sl 1 []])
       | .CT MU a m 1=>match h[MU]? with
        |some (.cells ks)=>if a+m*1<=ks.length/\Mw (Cp ks 1 a m)=true then
         some (h,.tuple [.Cu [o,l,.sl 1 (Cp ks 1 a m),k,j,i,g,f,e,d,kI,.int .i64 c,â],.int .i64 c,.sl 1 (Cp ks 1 a m)]) else none
        |_=>none
       |_=>none
      else none
     |_=>none
    else none
   |_=>none
  |_=>none
 |_=>none
def HD(line:FuncId)(a:Aa):Nat->Int->Nat->Aj->(Aj->IT)->IT
 |0,_,_,_,_=> .fail
 |fuel+1,x,d,DE,k=> .mem (.VU au) [a,.int .i64 x] λr=>match r with
  | .tuple [.Cu row,.int _ c,.sl _ Bm]=> .vJ line [.Cu row] λln=>match ln with
   | .str s=>
    let e:=DE++List.replicate (2*d) 32++s++[10]
    let b:Aj->IT:=Bm.foldr (λMU K DE=>match MU with
     |[.int .i64 y]=>HD line a fuel y (d+1) DE K
     |_=> .fail) k
    if e.length<=AJ then(if c=0 then b e else HD line a fuel c (d+1) e b) else .fail
   |_=> .fail
  |_=> .fail
def wL(line:FuncId):List Aa->IT
 |[a,.int .i64 x]=>HD line a 100 x 0 [] λDE=> .ret .ret [.str DE]
 |_=> .fail
def Gp(cs:List Aa)(off:Nat)(h:Int)(k:Nat):Option Int:=
 match cs[off+(h.toNat-1)*13+k]? with
 |some (.int .i64 n)=>some n
 |_=>none
def Ls(cs:List Aa)(off n:Nat)(up:Int):Nat->Int->Option Bool
 |_,0=>some false
 |0,_=>none
 |fuel+1,h=>if h=up then some true else if 1<=h/\h<=n then
   match Gp cs off h 1,Gp cs off h 12 with
   |some p,some q=>Ls cs off n up fuel (if p=0 then q else p)
   |_,_=>none
  else none
def Nk(h:Ai):List Aa->Option (Ai×Aa)
 |[.ptr (some (id,0)),.int .i64 up,.int .i64 x]=>match h[id]? with
  |some (.cells (.slnil::_))=>some (h,.bool false)
  |some (.cells (.CT a off n 13::_))=>match h[a]? with
   |some (.cells cs)=>if off+n*13<=cs.length then
    (if 1<=up/\up<=n/\1<=x/\x<=n then(Ls cs off n up (n+1) x).map λb=>(h,.bool b) else some (h,.bool false)) else none
   |_=>none
  |_=>none
 |_=>none
def Nl(args:List Aa):IT:= .mem (.VU Nk) args λr=> .ret .ret [r]
def qW(t:TypeId)(h:Ai):List Aa->Option (Ai×Aa)
 |[.iface t' v]=>if t'=t then some (h,v) else none
 |_=>none
def WN(make method:FuncId)(t:TypeId):List Aa->IT
 |[.ptr (some (id,0)),s]=> .load (some 3) (.ptr (some (id,0))) λv=> .same v (.agg [.int .u32 0,.int .i32 0,.int .u32 0]) (
  .store 1 (.ptr (some (id,1))) (.int .i32 1) (
  .call make [.ptr (some (id,0))] λ_=>
  .load (some 3) (.ptr (some (id,0))) λv=> .same v (.agg [.int .u32 0,.int .i32 1,.int .u32 0]) (
  .store 1 (.ptr (some (id,0))) (.int .u32 1) (
  .store 1 (.ptr (some (id,1))) (.int .i32 0) (
  .load none (.ptr (some (id,3))) λv=> .mem (.VU (qW t)) [v] λu=> .call method [u,s] λr=> .ret .ret [r])))))
 |_=> .fail
def aw(x:Int):Bool:=decide (-9223372036854775808<=x)&&decide (x<9223372036854775808)
end Go.Am
