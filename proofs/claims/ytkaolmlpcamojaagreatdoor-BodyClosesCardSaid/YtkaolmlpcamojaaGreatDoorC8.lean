/- Lemmas -/
import Derived.Test.YtkaolmlpcamojaaGreatDoorC1
set_option linter.all false
namespace Go.Am
open Go
mutual
def Aa.still:Aa->Bool
 | .ptr (some _)| .CF _ _ _ _| .map (some _)=>false
 | .CH cs| .agg cs| .tuple cs=>JL cs
 | .sl _ AE=>M3 AE
 | .func _ a b=>JL a&&JL b
 | .iface _ v=>Aa.still v
 |_=>true
def JL:List Aa->Bool
 |[]=>true
 |a::l=>Aa.still a&&JL l
def M3:List (List Aa)->Bool
 |[]=>true
 |a::l=>JL a&&M3 l
end
def ic(h:Ah):List Aa->Option (Ah×Aa)
 |[.ptr (some (id,0)),.int .i64 x]=>match h[id]? with
  |some (.cells (.CF b off n 13::_))=>match h[b]? with
   |some (.cells cs)=>if 1<=x/\x<=n/\off+n*13<=cs.length then
     match(cs.drop (off+(x.toNat-1)*13)).take 13 with
     |[o,l,p,k,j,i,g,f,e,d,VH,.int .i64 c,ij]=>
      if JL [o,l,k,j,i,g,f,e,d,VH,ij] then
       match p with
       | .slnil=>some (h,.tuple [.CH [o,l,.slnil,k,j,i,g,f,e,d,VH,.int .i64 c,ij],.int .i64 c,.sl 1 []])
       | .CF M4 a m 1=>match h[M4]? with
        |some (.cells ks)=>if a+m*1<=ks.length/\M3 (CA ks 1 a m)=true then
         some (h,.tuple [.CH [o,l,.sl 1 (CA ks 1 a m),k,j,i,g,f,e,d,VH,.int .i64 c,ij],.int .i64 c,.sl 1 (CA ks 1 a m)]) else none
        |_=>none
       |_=>none
      else none
     |_=>none
    else none
   |_=>none
  |_=>none
 |_=>none
def H6(line:FuncId)(a:Aa):Nat->Int->Nat->Ai->(Ai->IT)->IT
 |0,_,_,_,_=> .fail
 |fuel+1,x,d,D0,k=> .mem (.Rq ic) [a,.int .i64 x] λr=>match r with
  | .tuple [.CH row,.int _ c,.sl _ Bb]=> .wV line [.CH row] λln=>match ln with
   | .str s=>
    let e:=D0++List.replicate (2*d) 32++s++[10]
    let b:Ai->IT:=Bb.foldr (λM4 K D0=>match M4 with
     |[.int .i64 y]=>H6 line a fuel y (d+1) D0 K
     |_=> .fail) k
    if e.length<=AX then(if c=0 then b e else H6 line a fuel c (d+1) e b) else .fail
   |_=> .fail
  |_=> .fail
def xZ(line:FuncId):List Aa->IT
 |[a,.int .i64 x]=>H6 line a 100 x 0 [] λD0=> .ret .ret [.str D0]
 |_=> .fail
def GQ(cs:List Aa)(off:Nat)(h:Int)(k:Nat):Option Int:=
 match cs[off+(h.toNat-1)*13+k]? with
 |some (.int .i64 n)=>some n
 |_=>none
def LQ(cs:List Aa)(off n:Nat)(up:Int):Nat->Int->Option Bool
 |_,0=>some false
 |0,_=>none
 |fuel+1,h=>if h=up then some true else if 1<=h/\h<=n then
   match GQ cs off h 1,GQ cs off h 12 with
   |some p,some q=>LQ cs off n up fuel (if p=0 then q else p)
   |_,_=>none
  else none
def NJ(h:Ah):List Aa->Option (Ah×Aa)
 |[.ptr (some (id,0)),.int .i64 up,.int .i64 x]=>match h[id]? with
  |some (.cells (.slnil::_))=>some (h,.bool false)
  |some (.cells (.CF a off n 13::_))=>match h[a]? with
   |some (.cells cs)=>if off+n*13<=cs.length then
    (if 1<=up/\up<=n/\1<=x/\x<=n then(LQ cs off n up (n+1) x).map λb=>(h,.bool b) else some (h,.bool false)) else none
   |_=>none
  |_=>none
 |_=>none
def NL(args:List Aa):IT:= .mem (.Rq NJ) args λr=> .ret .ret [r]
def sN(t:TypeId)(h:Ah):List Aa->Option (Ah×Aa)
 |[.iface t' v]=>if t'=t then some (h,v) else none
 |_=>none
def XN(make method:FuncId)(t:TypeId):List Aa->IT
 |[.ptr (some (id,0)),s]=> .load (some 3) (.ptr (some (id,0))) λv=> .same v (.agg [.int .u32 0,.int .i32 0,.int .u32 0]) (
  .store 1 (.ptr (some (id,1))) (.int .i32 1) (
  .call make [.ptr (some (id,0))] λ_=>
  .load (some 3) (.ptr (some (id,0))) λv=> .same v (.agg [.int .u32 0,.int .i32 1,.int .u32 0]) (
  .store 1 (.ptr (some (id,0))) (.int .u32 1) (
  .store 1 (.ptr (some (id,1))) (.int .i32 0) (
  .load none (.ptr (some (id,3))) λv=> .mem (.Rq (sN t)) [v] λu=> .call method [u,s] λr=> .ret .ret [r])))))
 |_=> .fail
def Wj(h:Ah):List Aa->Option (Ah×Aa)
 |[]=>some (h++[.CR]++[.cells [.int .i64 0,.int .i64 0,.slnil,.int .i64 0,.int .i64 0,.str [],.slnil,.str [],.str [],.str [],.bool false,.int .i64 0,.int .i64 0]]++[.cells [.int .i64 0]]++
  [.cells [.CF (h.length+1) 0 1 13,.CF (h.length+2) 0 1 1]],.ptr (some (h.length+3,0)))
 |_=>none
def Wk(args:List Aa):IT:= .mem (.Rq Wj) args λr=> .ret .ret [r]
def ir(x:Int):Bool:=decide (-9223372036854775808<=x)&&decide (x<9223372036854775808)
end Go.Am
