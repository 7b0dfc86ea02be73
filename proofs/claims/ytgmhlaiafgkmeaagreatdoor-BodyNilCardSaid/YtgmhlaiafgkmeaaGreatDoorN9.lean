/- Lemmas -/
import Derived.Test.YtgmhlaiafgkmeaaGreatDoorN1
set_option linter.all false
namespace Go.Am
open Go
mutual
def Aa.still:Aa->Bool
 | .ptr (some _)| .EG _ _ _ _| .map (some _)=>false
 | .A9 cs| .agg cs| .tuple cs=>Eg cs
 | .sl _ Ac=>F7 Ac
 | .func _ a b=>Eg a&&Eg b
 | .iface _ v=>Aa.still v
 |_=>true
def Eg:List Aa->Bool
 |[]=>true
 |a::l=>Aa.still a&&Eg l
def F7:List (List Aa)->Bool
 |[]=>true
 |a::l=>Eg a&&F7 l
end
def Sw(h:Ab):List Aa->Option (Ab×Aa)
 |[.ptr (some (id,0)),.int .i64 x]=>match h[id]? with
  |some (.cells (.EG nid off n 13::_))=>match h[nid]? with
   |some (.cells cs)=>if 1<=x/\x<=n/\off+n*13<=cs.length then
     match(cs.drop (off+(x.toNat-1)*13)).take 13 with
     |[c0,c1,c2,c3,c4,c5,c6,c7,c8,c9,ZT,.int .i64 c,ZU]=>
      if Eg [c0,c1,c3,c4,c5,c6,c7,c8,c9,ZT,ZU] then
       match c2 with
       | .slnil=>some (h,.tuple [.A9 [c0,c1,.slnil,c3,c4,c5,c6,c7,c8,c9,ZT,.int .i64 c,ZU],.int .i64 c,.sl 1 []])
       | .EG bO ko m 1=>match h[bO]? with
        |some (.cells ks)=>if ko+m*1<=ks.length/\F7 (A8 ks 1 ko m)=true then
         some (h,.tuple [.A9 [c0,c1,.sl 1 (A8 ks 1 ko m),c3,c4,c5,c6,c7,c8,c9,ZT,.int .i64 c,ZU],.int .i64 c,.sl 1 (A8 ks 1 ko m)]) else none
        |_=>none
       |_=>none
      else none
     |_=>none
    else none
   |_=>none
  |_=>none
 |_=>none
def Dv(line:FuncId)(a:Aa):Nat->Int->Nat->Ag->(Ag->IT)->IT
 |0,_,_,_,_=> .fail
 |fuel+1,x,d,BE,k=> .mem (.Nj Sw) [a,.int .i64 x] λr=>match r with
  | .tuple [.A9 row,.int _ c,.sl _ Co]=> .QF line [.A9 row] λln=>match ln with
   | .str s=>
    let acc1:=BE++List.replicate (2*d) 32++s++[10]
    let kidsK:Ag->IT:=Co.foldr (λbO K BE=>match bO with
     |[.int .i64 y]=>Dv line a fuel y (d+1) BE K
     |_=> .fail) k
    if acc1.length<=AO then(if c=0 then kidsK acc1 else Dv line a fuel c (d+1) acc1 kidsK) else .fail
   |_=> .fail
  |_=> .fail
def Ra(line:FuncId):List Aa->IT
 |[a,.int .i64 x]=>Dv line a 100 x 0 [] λBE=> .ret .ret [.str BE]
 |_=> .fail
def Fb(cs:List Aa)(off:Nat)(h:Int)(k:Nat):Option Int:=
 match cs[off+(h.toNat-1)*13+k]? with
 |some (.int .i64 n)=>some n
 |_=>none
def Hi(cs:List Aa)(off n:Nat)(up:Int):Nat->Int->Option Bool
 |_,0=>some false
 |0,_=>none
 |fuel+1,h=>if h=up then some true else if 1<=h/\h<=n then
   match Fb cs off h 1,Fb cs off h 12 with
   |some p,some q=>Hi cs off n up fuel (if p=0 then q else p)
   |_,_=>none
  else none
def Kb(h:Ab):List Aa->Option (Ab×Aa)
 |[.ptr (some (id,0)),.int .i64 up,.int .i64 x]=>match h[id]? with
  |some (.cells (.slnil::_))=>some (h,.bool false)
  |some (.cells (.EG nid off n 13::_))=>match h[nid]? with
   |some (.cells cs)=>if off+n*13<=cs.length then
    (if 1<=up/\up<=n/\1<=x/\x<=n then(Hi cs off n up (n+1) x).map λb=>(h,.bool b) else some (h,.bool false)) else none
   |_=>none
  |_=>none
 |_=>none
def Kc(args:List Aa):IT:= .mem (.Nj Kb) args λr=> .ret .ret [r]
def P2(t:TypeId)(h:Ab):List Aa->Option (Ab×Aa)
 |[.iface t' v]=>if t'=t then some (h,v) else none
 |_=>none
def L7(make method:FuncId)(t:TypeId):List Aa->IT
 |[.ptr (some (id,0)),s]=> .load (some 3) (.ptr (some (id,0))) λv=> .same v (.agg [.int .u32 0,.int .i32 0,.int .u32 0]) (
  .store 1 (.ptr (some (id,1))) (.int .i32 1) (
  .call make [.ptr (some (id,0))] λ_=>
  .load (some 3) (.ptr (some (id,0))) λv=> .same v (.agg [.int .u32 0,.int .i32 1,.int .u32 0]) (
  .store 1 (.ptr (some (id,0))) (.int .u32 1) (
  .store 1 (.ptr (some (id,1))) (.int .i32 0) (
  .load none (.ptr (some (id,3))) λv=> .mem (.Nj (P2 t)) [v] λu=> .call method [u,s] λr=> .ret .ret [r])))))
 |_=> .fail
end Go.Am
