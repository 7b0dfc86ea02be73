/- Lemmas -/
import Derived.Test.YtlcmmpgfafpoiaaGreatDoorT1
set_option linter.all false
namespace Go.Am
open Go
mutual
def Aa.still:Aa->Bool
 | .ptr (some _)| .Cs _ _ _ _| .map (some _)=>false
 | .CJ cs| .agg cs| .tuple cs=>JP cs
 | .sl _ AD=>M3 AD
 | .func _ a b=>JP a&&JP b
 | .iface _ v=>Aa.still v
 |_=>true
def JP:List Aa->Bool
 |[]=>true
 |a::l=>Aa.still a&&JP l
def M3:List (List Aa)->Bool
 |[]=>true
 |a::l=>JP a&&M3 l
end
def h_(h:Ah):List Aa->Option (Ah×Aa)
 |[.ptr (some (id,0)),.int .i64 x]=>match h[id]? with
  |some (.cells (.Cs d off n 13::_))=>match h[d]? with
   |some (.cells cs)=>if 1<=x/\x<=n/\off+n*13<=cs.length then
     match(cs.drop (off+(x.toNat-1)*13)).take 13 with
     |[p,o,q,l,k,j,i,g,f,e,VA,.int .i64 c,a]=>
      if JP [p,o,l,k,j,i,g,f,e,VA,a] then
       match q with
       | .slnil=>some (h,.tuple [.CJ [p,o,.slnil,l,k,j,i,g,f,e,VA,.int .i64 c,a],.int .i64 c,.sl 1 []])
       | .Cs M4 b m 1=>match h[M4]? with
        |some (.cells ks)=>if b+m*1<=ks.length/\M3 (Cw ks 1 b m)=true then
         some (h,.tuple [.CJ [p,o,.sl 1 (Cw ks 1 b m),l,k,j,i,g,f,e,VA,.int .i64 c,a],.int .i64 c,.sl 1 (Cw ks 1 b m)]) else none
        |_=>none
       |_=>none
      else none
     |_=>none
    else none
   |_=>none
  |_=>none
 |_=>none
def HV(line:FuncId)(a:Aa):Nat->Int->Nat->An->(An->IT)->IT
 |0,_,_,_,_=> .fail
 |fuel+1,x,d,D0,k=> .mem (.Rh h_) [a,.int .i64 x] λr=>match r with
  | .tuple [.CJ row,.int _ c,.sl _ Bb]=> .wF line [.CJ row] λln=>match ln with
   | .str s=>
    let e:=D0++List.replicate (2*d) 32++s++[10]
    let b:An->IT:=Bb.foldr (λM4 K D0=>match M4 with
     |[.int .i64 y]=>HV line a fuel y (d+1) D0 K
     |_=> .fail) k
    if e.length<=AS then(if c=0 then b e else HV line a fuel c (d+1) e b) else .fail
   |_=> .fail
  |_=> .fail
def xJ(line:FuncId):List Aa->IT
 |[a,.int .i64 x]=>HV line a 100 x 0 [] λD0=> .ret .ret [.str D0]
 |_=> .fail
def GU(cs:List Aa)(off:Nat)(h:Int)(k:Nat):Option Int:=
 match cs[off+(h.toNat-1)*13+k]? with
 |some (.int .i64 n)=>some n
 |_=>none
def LW(cs:List Aa)(off n:Nat)(up:Int):Nat->Int->Option Bool
 |_,0=>some false
 |0,_=>none
 |fuel+1,h=>if h=up then some true else if 1<=h/\h<=n then
   match GU cs off h 1,GU cs off h 12 with
   |some p,some q=>LW cs off n up fuel (if p=0 then q else p)
   |_,_=>none
  else none
def NI(h:Ah):List Aa->Option (Ah×Aa)
 |[.ptr (some (id,0)),.int .i64 up,.int .i64 x]=>match h[id]? with
  |some (.cells (.slnil::_))=>some (h,.bool false)
  |some (.cells (.Cs a off n 13::_))=>match h[a]? with
   |some (.cells cs)=>if off+n*13<=cs.length then
    (if 1<=up/\up<=n/\1<=x/\x<=n then(LW cs off n up (n+1) x).map λb=>(h,.bool b) else some (h,.bool false)) else none
   |_=>none
  |_=>none
 |_=>none
def NJ(args:List Aa):IT:= .mem (.Rh NI) args λr=> .ret .ret [r]
def sF(t:TypeId)(h:Ah):List Aa->Option (Ah×Aa)
 |[.iface t' v]=>if t'=t then some (h,v) else none
 |_=>none
def XG(make method:FuncId)(t:TypeId):List Aa->IT
 |[.ptr (some (id,0)),s]=> .load (some 3) (.ptr (some (id,0))) λv=> .same v (.agg [.int .u32 0,.int .i32 0,.int .u32 0]) (
  .store 1 (.ptr (some (id,1))) (.int .i32 1) (
  .call make [.ptr (some (id,0))] λ_=>
  .load (some 3) (.ptr (some (id,0))) λv=> .same v (.agg [.int .u32 0,.int .i32 1,.int .u32 0]) (
  .store 1 (.ptr (some (id,0))) (.int .u32 1) (
  .store 1 (.ptr (some (id,1))) (.int .i32 0) (
  .load none (.ptr (some (id,3))) λv=> .mem (.Rh (sF t)) [v] λu=> .call method [u,s] λr=> .ret .ret [r])))))
 |_=> .fail
def V8(h:Ah):List Aa->Option (Ah×Aa)
 |[]=>some (h++[.CF]++[.cells [.int .i64 0,.int .i64 0,.slnil,.int .i64 0,.int .i64 0,.str [],.slnil,.str [],.str [],.str [],.bool false,.int .i64 0,.int .i64 0]]++[.cells [.int .i64 0]]++
  [.cells [.Cs (h.length+1) 0 1 13,.Cs (h.length+2) 0 1 1]],.ptr (some (h.length+3,0)))
 |_=>none
def V9(args:List Aa):IT:= .mem (.Rh V8) args λr=> .ret .ret [r]
def ic(x:Int):Bool:=decide (-9223372036854775808<=x)&&decide (x<9223372036854775808)
end Go.Am
