/- Lemmas -/
import Derived.Test.YtbnogamdhadfcaaGreatDoorU1
set_option linter.unusedVariables false
set_option linter.unusedSimpArgs false
namespace Go.Am
open Go
mutual
def Aa.still:Aa->Bool
 | .ptr (some _)| .Cm _ _ _ _| .map (some _)=>false
 | .CA cs| .agg cs| .tuple cs=>IE cs
 | .sl _ Au=>Ly Au
 | .func _ a b=>IE a&&IE b
 | .iface _ v=>Aa.still v
 |_=>true
def IE:List Aa->Bool
 |[]=>true
 |a::l=>Aa.still a&&IE l
def Ly:List (List Aa)->Bool
 |[]=>true
 |a::l=>IE a&&Ly l
end
def q7(h:Ae):List Aa->Option (Ae×Aa)
 |[.ptr (some (id,0)),.int .i64 x]=>match h[id]? with
  |some (.cells (.Cm nid off n 13::_))=>match h[nid]? with
   |some (.cells cs)=>if 1<=x/\x<=n/\off+n*13<=cs.length then
     match(cs.drop (off+(x.toNat-1)*13)).take 13 with
     |[c0,c1,c2,c3,c4,c5,c6,c7,c8,c9,Tm,.int .i64 c,um]=>
      if IE [c0,c1,c3,c4,c5,c6,c7,c8,c9,Tm,um] then
       match c2 with
       | .slnil=>some (h,.tuple [.CA [c0,c1,.slnil,c3,c4,c5,c6,c7,c8,c9,Tm,.int .i64 c,um],.int .i64 c,.sl 1 []])
       | .Cm LA ko m 1=>match h[LA]? with
        |some (.cells ks)=>if ko+m*1<=ks.length/\Ly (Ck ks 1 ko m)=true then
         some (h,.tuple [.CA [c0,c1,.sl 1 (Ck ks 1 ko m),c3,c4,c5,c6,c7,c8,c9,Tm,.int .i64 c,um],.int .i64 c,.sl 1 (Ck ks 1 ko m)]) else none
        |_=>none
       |_=>none
      else none
     |_=>none
    else none
   |_=>none
  |_=>none
 |_=>none
def GY(line:FuncId)(a:Aa):Nat->Int->Nat->As->(As->IT)->IT
 |0,_,_,_,_=> .fail
 |fuel+1,x,d,Dw,k=> .mem (.PD q7) [a,.int .i64 x] λr=>match r with
  | .tuple [.CA row,.int _ c,.sl _ AZ]=> .uE line [.CA row] λln=>match ln with
   | .str s=>
    let acc1:=Dw++List.replicate (2*d) 32++s++[10]
    let kidsK:As->IT:=AZ.foldr (λLA K Dw=>match LA with
     |[.int .i64 y]=>GY line a fuel y (d+1) Dw K
     |_=> .fail) k
    if acc1.length<=AS then(if c=0 then kidsK acc1 else GY line a fuel c (d+1) acc1 kidsK) else .fail
   |_=> .fail
  |_=> .fail
def lC(line:FuncId):List Aa->IT
 |[a,.int .i64 x]=>GY line a 100 x 0 [] λDw=> .ret .ret [.str Dw]
 |_=> .fail
def Ga(cs:List Aa)(off:Nat)(h:Int)(k:Nat):Option Int:=
 match cs[off+(h.toNat-1)*13+k]? with
 |some (.int .i64 n)=>some n
 |_=>none
def KB(cs:List Aa)(off n:Nat)(up:Int):Nat->Int->Option Bool
 |_,0=>some false
 |0,_=>none
 |fuel+1,h=>if h=up then some true else if 1<=h/\h<=n then
   match Ga cs off h 1,Ga cs off h 12 with
   |some p,some q=>KB cs off n up fuel (if p=0 then q else p)
   |_,_=>none
  else none
def Me(h:Ae):List Aa->Option (Ae×Aa)
 |[.ptr (some (id,0)),.int .i64 up,.int .i64 x]=>match h[id]? with
  |some (.cells (.slnil::_))=>some (h,.bool false)
  |some (.cells (.Cm nid off n 13::_))=>match h[nid]? with
   |some (.cells cs)=>if off+n*13<=cs.length then
    (if 1<=up/\up<=n/\1<=x/\x<=n then(KB cs off n up (n+1) x).map λb=>(h,.bool b) else some (h,.bool false)) else none
   |_=>none
  |_=>none
 |_=>none
def Mf(args:List Aa):IT:= .mem (.PD Me) args λr=> .ret .ret [r]
def fS(t:TypeId)(h:Ae):List Aa->Option (Ae×Aa)
 |[.iface t' v]=>if t'=t then some (h,v) else none
 |_=>none
def UW(make method:FuncId)(t:TypeId):List Aa->IT
 |[.ptr (some (id,0)),s]=> .load (some 3) (.ptr (some (id,0))) λv=> .same v (.agg [.int .u32 0,.int .i32 0,.int .u32 0]) (
  .store 1 (.ptr (some (id,1))) (.int .i32 1) (
  .call make [.ptr (some (id,0))] λ_=>
  .load (some 3) (.ptr (some (id,0))) λv=> .same v (.agg [.int .u32 0,.int .i32 1,.int .u32 0]) (
  .store 1 (.ptr (some (id,0))) (.int .u32 1) (
  .store 1 (.ptr (some (id,1))) (.int .i32 0) (
  .load none (.ptr (some (id,3))) λv=> .mem (.PD (fS t)) [v] λu=> .call method [u,s] λr=> .ret .ret [r])))))
 |_=> .fail
def TV(h:Ae):List Aa->Option (Ae×Aa)
 |[]=>some (h++[.CG]++[.cells [.int .i64 0,.int .i64 0,.slnil,.int .i64 0,.int .i64 0,.str [],.slnil,.str [],.str [],.str [],.bool false,.int .i64 0,.int .i64 0]]++[.cells [.int .i64 0]]++
  [.cells [.Cm (h.length+1) 0 1 13,.Cm (h.length+2) 0 1 1]],.ptr (some (h.length+3,0)))
 |_=>none
def TW(args:List Aa):IT:= .mem (.PD TV) args λr=> .ret .ret [r]
end Go.Am
