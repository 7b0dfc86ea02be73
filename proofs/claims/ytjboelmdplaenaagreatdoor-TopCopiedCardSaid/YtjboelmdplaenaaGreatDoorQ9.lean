/- Lemmas -/
import Derived.Test.YtjboelmdplaenaaGreatDoorQ1
set_option linter.unusedVariables false
set_option linter.unusedSimpArgs false
namespace Go.Am
open Go
mutual
def AVal.still:AVal→Bool
 | .ptr (some _)| .msl _ _ _ _| .map (some _)=>false
 | .rptr cs| .agg cs| .tuple cs=>stillL cs
 | .sl _ rows=>stillLL rows
 | .func _ a b=>stillL a&&stillL b
 | .iface _ v=>AVal.still v
 |_=>true
def stillL:List AVal→Bool
 |[]=>true
 |a::l=>AVal.still a&&stillL l
def stillLL:List (List AVal)→Bool
 |[]=>true
 |a::l=>stillL a&&stillLL l
end
def gRow (h:AHeap):List AVal→Option (AHeap×AVal)
 |[.ptr (some (id,0)),.int .i64 x]=>match h[id]? with
  |some (.cells (.msl nid off n 13::_))=>match h[nid]? with
   |some (.cells cs)=>if 1≤x∧x≤n∧off+n*13≤cs.length then
     match(cs.drop (off+(x.toNat-1)*13)).take 13 with
     |[c0,c1,c2,c3,c4,c5,c6,c7,c8,c9,c10,.int .i64 c,c12]=>
      if stillL [c0,c1,c3,c4,c5,c6,c7,c8,c9,c10,c12] then
       match c2 with
       | .slnil=>some (h,.tuple [.rptr [c0,c1,.slnil,c3,c4,c5,c6,c7,c8,c9,c10,.int .i64 c,c12],.int .i64 c,.sl 1 []])
       | .msl kid ko m 1=>match h[kid]? with
        |some (.cells ks)=>if ko+m*1≤ks.length∧stillLL (rowsFrom ks 1 ko m)=true then
         some (h,.tuple [.rptr [c0,c1,.sl 1 (rowsFrom ks 1 ko m),c3,c4,c5,c6,c7,c8,c9,c10,.int .i64 c,c12],.int .i64 c,.sl 1 (rowsFrom ks 1 ko m)]) else none
        |_=>none
       |_=>none
      else none
     |_=>none
    else none
   |_=>none
  |_=>none
 |_=>none
def dumpTree (line:FuncId) (a:AVal):Nat→Int→Nat→Bytes→(Bytes→IT)→IT
 |0,_,_,_,_=> .fail
 |fuel+1,x,d,acc,k=> .mem (.custom gRow) [a,.int .i64 x] λr=>match r with
  | .tuple [.rptr row,.int _ c,.sl _ kids]=> .qcall line [.rptr row] λln=>match ln with
   | .str s=>
    let acc1:=acc++List.replicate (2*d) 32++s++[10]
    let kidsK:Bytes→IT:=kids.foldr (λkid K acc=>match kid with
     |[.int .i64 y]=>dumpTree line a fuel y (d+1) acc K
     |_=> .fail) k
    if acc1.length≤maxBytes then(if c=0 then kidsK acc1 else dumpTree line a fuel c (d+1) acc1 kidsK) else .fail
   |_=> .fail
  |_=> .fail
def pDump (line:FuncId):List AVal→IT
 |[a,.int .i64 x]=>dumpTree line a 1000000000 x 0 [] λacc=> .ret .ret [.str acc]
 |_=> .fail
def nodeCell (cs:List AVal) (off:Nat) (h:Int) (k:Nat):Option Int:=
 match cs[off+(h.toNat-1)*13+k]? with
 |some (.int .i64 n)=>some n
 |_=>none
def climb (cs:List AVal) (off n:Nat) (up:Int):Nat→Int→Option Bool
 |_,0=>some false
 |0,_=>none
 |fuel+1,h=>if h=up then some true else if 1≤h∧h≤n then
   match nodeCell cs off h 1,nodeCell cs off h 12 with
   |some p,some q=>climb cs off n up fuel (if p=0 then q else p)
   |_,_=>none
  else none
def gContains (h:AHeap):List AVal→Option (AHeap×AVal)
 |[.ptr (some (id,0)),.int .i64 up,.int .i64 x]=>match h[id]? with
  |some (.cells (.slnil::_))=>some (h,.bool false)
  |some (.cells (.msl nid off n 13::_))=>match h[nid]? with
   |some (.cells cs)=>if off+n*13≤cs.length then
    (if 1≤up∧up≤n∧1≤x∧x≤n then(climb cs off n up (n+1) x).map λb=>(h,.bool b) else some (h,.bool false)) else none
   |_=>none
  |_=>none
 |_=>none
def pContains (args:List AVal):IT:= .mem (.custom gContains) args λr=> .ret .ret [r]
def gIface (t:TypeId) (h:AHeap):List AVal→Option (AHeap×AVal)
 |[.iface t' v]=>if t'=t then some (h,v) else none
 |_=>none
def pReplace (make method:FuncId) (t:TypeId):List AVal→IT
 |[.ptr (some (id,0)),s]=> .load (some 3) (.ptr (some (id,0))) λv=> .same v (.agg [.int .u32 0,.int .i32 0,.int .u32 0]) (
  .store 1 (.ptr (some (id,1))) (.int .i32 1) (
  .call make [.ptr (some (id,0))] λ_=>
  .load (some 3) (.ptr (some (id,0))) λv=> .same v (.agg [.int .u32 0,.int .i32 1,.int .u32 0]) (
  .store 1 (.ptr (some (id,0))) (.int .u32 1) (
  .store 1 (.ptr (some (id,1))) (.int .i32 0) (
  .load none (.ptr (some (id,3))) λv=> .mem (.custom (gIface t)) [v] λu=> .call method [u,s] λr=> .ret .ret [r])))))
 |_=> .fail
def in64 (x:Int):Bool:=decide (-9223372036854775808≤x)&&decide (x<9223372036854775808)
def gMapClone (h:AHeap):List AVal→Option (AHeap×AVal)
 |[.map none]=>some (h,.map none)
 |[.map (some id)]=>match h[id]? with
  |some (.map es)=>some (h++[.map es],.map (some h.length))
  |_=>none
 |_=>none
def pMapClone (args:List AVal):IT:= .mem (.custom gMapClone) args λr=> .ret .ret [r]
def intsFrom (ks:List AVal):Nat→Nat→Option (List Int)
 |_,0=>some []
 |o,m+1=>match ks[o]? with
  |some (.int .i64 y)=>(intsFrom ks (o+1) m).map (y::·)
  |_=>none
def kidsOf (h:AHeap) (id:Nat) (x:Int):Option (List Int):=match h[id]? with
 |some (.cells (.msl nid off n 13::_))=>match h[nid]? with
  |some (.cells cs)=>if 1≤x∧x≤(n:Int) then match cs[off+(x.toNat-1)*13+2]? with
   |some .slnil=>some []
   |some (.msl kid ko m 1)=>match h[kid]? with
    |some (.cells ks)=>if m≤1000000000 then intsFrom ks ko m else none
    |_=>none
   |_=>none else none
  |_=>none
 |_=>none
def preL (f:Int→Option (List Int)):List Int→Option (List Int)
 |[]=>some []
 |y::l=>match f y,preL f l with
  |some a,some b=>some (y::a++b)
  |_,_=>none
def preOf (h:AHeap) (id:Nat):Nat→Int→Option (List Int)
 |0,_=>none
 |f+1,x=>(kidsOf h id x).bind (preL (preOf h id f))
def gPre (h:AHeap):List AVal→Option (AHeap×AVal)
 |[.ptr (some (id,0)),.int .i64 x]=>match h[id]? with
  |some (.cells (.msl nid off n 13::_))=>match preOf h id (n+1) x with
   |some l=>if l.length≤1000000000 then some (h,.sl 1 (l.map λy=>[.int .i64 y])) else none
   |none=>none
  |_=>none
 |_=>none
def joinsT (join:FuncId) (a:AVal) (k:IT):List (List AVal)→IT
 |[]=>k
 |[y]::l=> .call join [a,y] λ_=>joinsT join a k l
 |_=> .fail
def pNormalize (check join:FuncId):List AVal→IT
 |[.ptr (some (id,0)),.int .i64 x]=> .call check [.ptr (some (id,0)),.int .i64 (-1),.sl 1 [[.int .i64 x]]] λr=> .op (.int .neq) [r,.int .i64 0] λc=> .cnd c (.ret .ret [r]) (.call join [.ptr (some (id,0)),.int .i64 x] λ_=> .mem (.custom gPre) [.ptr (some (id,0)),.int .i64 x] λr=>match r with
  | .sl 1 rows=>joinsT join (.ptr (some (id,0))) (.ret .ret [.int .i64 0]) rows
  |_=> .fail)
 |_=> .fail
def preSL (f:Int→Option (List (Int×List Int))):List Int→Option (List (Int×List Int))
 |[]=>some []
 |y::l=>match f y,preSL f l with
  |some a,some b=>some (a++b)
  |_,_=>none
def preS (K:Int→Option (List Int)):Nat→Int→Option (List (Int×List Int))
 |0,_=>none
 |f+1,x=>(K x).bind λks=>(preSL (preS K f) ks).map λl=>(x,ks)::l
def gPreS (h:AHeap):List AVal→Option (AHeap×AVal)
 |[.ptr (some (id,0)),.int .i64 x]=>match h[id]? with
  |some (.cells (.msl nid off n 13::_))=>match preS (kidsOf h id) (n+1) x with
   |some l=>some (h,.sl 1 (l.map λp=>(p.1::p.2).map (.int .i64)))
   |none=>none
  |_=>none
 |_=>none
def ownT (own:FuncId) (a d x r:AVal):List (List AVal)→IT
 |[]=> .ret .ret [.tuple []]
 |(y::_)::l=> .callv (.func (.func own) [] [.rptr [a],.rptr [d]]) [y] λ_=> .mem (.custom gPreS) [a,x] λr'=> .same r r' (ownT own a d x r l)
 |_=> .fail
def pAdopt (cut document own:FuncId):List AVal→IT
 |[.ptr (some (id,0)),.int .i64 x,.int .i64 d]=> .call cut [.ptr (some (id,0)),.int .i64 x] λ_=> .call document [.ptr (some (id,0)),.int .i64 x] λy=> .op (.int .eql) [y,.int .i64 d] λc=> .cnd c (.ret .ret [.tuple []]) (.mem (.custom gPreS) [.ptr (some (id,0)),.int .i64 x] λr=>match r with
  | .sl 1 rows=>ownT own (.ptr (some (id,0))) (.int .i64 d) (.int .i64 x) r rows
  |_=> .fail)
 |_=> .fail
def ixByte (c:UInt8):Bytes→Int
 |[]=> -1
 |b::l=>if b==c then 0 else match ixByte c l with
  | .ofNat n=> .ofNat (n+1)
  |r=>r
def pIndexByte:List AVal→IT
 |[.str s,.int .u8 c]=> .ret .ret [.int .i64 (ixByte c.toNat.toUInt8 s)]
 |_=> .fail
def pCount:List AVal→IT
 |[.str s,.str [c]]=> .ret .ret [.int .i64 (s.count c)]
 |_=> .fail
end Go.Am
