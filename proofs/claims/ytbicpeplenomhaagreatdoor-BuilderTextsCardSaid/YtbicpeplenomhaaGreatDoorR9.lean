/- Parts of the proof. No law is claimed here. -/
import Derived.Test.YtbicpeplenomhaaGreatDoorR1
set_option linter.unusedVariables false
set_option linter.unusedSimpArgs false
namespace Go.Am
open Go
mutual
def AVal.still:AVal→Bool
 | .ptr (some _)| .msl _ _ _ _| .map (some _)=>false
 | .rptr cs| .agg cs| .tuple cs=>stillL cs
 | .sl _ rows=>stillLL rows
 | .func _ a b=>stillL a&&stillL b
 | .iface _ v=>AVal.still v
 |_=>true
def stillL:List AVal→Bool
 |[]=>true
 |a::l=>AVal.still a&&stillL l
def stillLL:List (List AVal)→Bool
 |[]=>true
 |a::l=>stillL a&&stillLL l
end
def gRow (h:AHeap):List AVal→Option (AHeap×AVal)
 |[.ptr (some (id,0)),.int .i64 x]=>match h[id]? with
  |some (.cells (.msl nid off n 13::_))=>match h[nid]? with
   |some (.cells cs)=>if 1≤x∧x≤n∧off+n*13≤cs.length then
     match(cs.drop (off+(x.toNat-1)*13)).take 13 with
     |[c0,c1,c2,c3,c4,c5,c6,c7,c8,c9,c10,.int .i64 c,c12]=>
      if stillL [c0,c1,c3,c4,c5,c6,c7,c8,c9,c10,c12] then
       match c2 with
       | .slnil=>some (h,.tuple [.rptr [c0,c1,.slnil,c3,c4,c5,c6,c7,c8,c9,c10,.int .i64 c,c12],.int .i64 c,.sl 1 []])
       | .msl kid ko m 1=>match h[kid]? with
        |some (.cells ks)=>if ko+m*1≤ks.length∧stillLL (rowsFrom ks 1 ko m)=true then
         some (h,.tuple [.rptr [c0,c1,.sl 1 (rowsFrom ks 1 ko m),c3,c4,c5,c6,c7,c8,c9,c10,.int .i64 c,c12],.int .i64 c,.sl 1 (rowsFrom ks 1 ko m)]) else none
        |_=>none
       |_=>none
      else none
     |_=>none
    else none
   |_=>none
  |_=>none
 |_=>none
def dumpTree (line:FuncId) (a:AVal):Nat→Int→Nat→Bytes→(Bytes→IT)→IT
 |0,_,_,_,_=> .fail
 |fuel+1,x,d,acc,k=> .mem (.custom gRow) [a,.int .i64 x] λr=>match r with
  | .tuple [.rptr row,.int _ c,.sl _ kids]=> .qcall line [.rptr row] λln=>match ln with
   | .str s=>
    let acc1:=acc++List.replicate (2*d) 32++s++[10]
    let kidsK:Bytes→IT:=kids.foldr (λkid K acc=>match kid with
     |[.int .i64 y]=>dumpTree line a fuel y (d+1) acc K
     |_=> .fail) k
    if acc1.length≤maxBytes then(if c=0 then kidsK acc1 else dumpTree line a fuel c (d+1) acc1 kidsK) else .fail
   |_=> .fail
  |_=> .fail
def pDump (line:FuncId):List AVal→IT
 |[a,.int .i64 x]=>dumpTree line a 100 x 0 [] λacc=> .ret .ret [.str acc]
 |_=> .fail
def nodeCell (cs:List AVal) (off:Nat) (h:Int) (k:Nat):Option Int:=
 match cs[off+(h.toNat-1)*13+k]? with
 |some (.int .i64 n)=>some n
 |_=>none
def climb (cs:List AVal) (off n:Nat) (up:Int):Nat→Int→Option Bool
 |_,0=>some false
 |0,_=>none
 |fuel+1,h=>if h=up then some true else if 1≤h∧h≤n then
   match nodeCell cs off h 1,nodeCell cs off h 12 with
   |some p,some q=>climb cs off n up fuel (if p=0 then q else p)
   |_,_=>none
  else none
def gContains (h:AHeap):List AVal→Option (AHeap×AVal)
 |[.ptr (some (id,0)),.int .i64 up,.int .i64 x]=>match h[id]? with
  |some (.cells (.slnil::_))=>some (h,.bool false)
  |some (.cells (.msl nid off n 13::_))=>match h[nid]? with
   |some (.cells cs)=>if off+n*13≤cs.length then
    (if 1≤up∧up≤n∧1≤x∧x≤n then(climb cs off n up (n+1) x).map λb=>(h,.bool b) else some (h,.bool false)) else none
   |_=>none
  |_=>none
 |_=>none
def pContains (args:List AVal):IT:= .mem (.custom gContains) args λr=> .ret .ret [r]
def gIface (t:TypeId) (h:AHeap):List AVal→Option (AHeap×AVal)
 |[.iface t' v]=>if t'=t then some (h,v) else none
 |_=>none
def pReplace (make method:FuncId) (t:TypeId):List AVal→IT
 |[.ptr (some (id,0)),s]=> .load (some 3) (.ptr (some (id,0))) λv=> .same v (.agg [.int .u32 0,.int .i32 0,.int .u32 0]) (
  .store 1 (.ptr (some (id,1))) (.int .i32 1) (
  .call make [.ptr (some (id,0))] λ_=>
  .load (some 3) (.ptr (some (id,0))) λv=> .same v (.agg [.int .u32 0,.int .i32 1,.int .u32 0]) (
  .store 1 (.ptr (some (id,0))) (.int .u32 1) (
  .store 1 (.ptr (some (id,1))) (.int .i32 0) (
  .load none (.ptr (some (id,3))) λv=> .mem (.custom (gIface t)) [v] λu=> .call method [u,s] λr=> .ret .ret [r])))))
 |_=> .fail
end Go.Am
