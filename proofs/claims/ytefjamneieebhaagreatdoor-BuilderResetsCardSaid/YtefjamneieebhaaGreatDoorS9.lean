/- Lemmas -/
import Derived.Test.YtefjamneieebhaaGreatDoorS1
set_option linter.unusedVariables false
set_option linter.unusedSimpArgs false
namespace Go.Am
open Go
mutual
def Aa.still:Aa->Bool
 | .ptr (some _)| .Cl _ _ _ _| .map (some _)=>false
 | .CA cs| .agg cs| .tuple cs=>IF cs
 | .sl _ Au=>LD Au
 | .func _ a b=>IF a&&IF b
 | .iface _ v=>Aa.still v
 |_=>true
def IF:List Aa->Bool
 |[]=>true
 |a::l=>Aa.still a&&IF l
def LD:List (List Aa)->Bool
 |[]=>true
 |a::l=>IF a&&LD l
end
def rI(h:Ad):List Aa->Option (Ad×Aa)
 |[.ptr (some (id,0)),.int .i64 x]=>match h[id]? with
  |some (.cells (.Cl nid off n 13::_))=>match h[nid]? with
   |some (.cells cs)=>if 1<=x/\x<=n/\off+n*13<=cs.length then
     match(cs.drop (off+(x.toNat-1)*13)).take 13 with
     |[c0,c1,c2,c3,c4,c5,c6,c7,c8,c9,Tv,.int .i64 c,uh]=>
      if IF [c0,c1,c3,c4,c5,c6,c7,c8,c9,Tv,uh] then
       match c2 with
       | .slnil=>some (h,.tuple [.CA [c0,c1,.slnil,c3,c4,c5,c6,c7,c8,c9,Tv,.int .i64 c,uh],.int .i64 c,.sl 1 []])
       | .Cl LF ko m 1=>match h[LF]? with
        |some (.cells ks)=>if ko+m*1<=ks.length/\LD (Cj ks 1 ko m)=true then
         some (h,.tuple [.CA [c0,c1,.sl 1 (Cj ks 1 ko m),c3,c4,c5,c6,c7,c8,c9,Tv,.int .i64 c,uh],.int .i64 c,.sl 1 (Cj ks 1 ko m)]) else none
        |_=>none
       |_=>none
      else none
     |_=>none
    else none
   |_=>none
  |_=>none
 |_=>none
def GW(line:FuncId)(a:Aa):Nat->Int->Nat->Ap->(Ap->IT)->IT
 |0,_,_,_,_=> .fail
 |fuel+1,x,d,Dw,k=> .mem (.PK rI) [a,.int .i64 x] λr=>match r with
  | .tuple [.CA row,.int _ c,.sl _ AY]=> .uU line [.CA row] λln=>match ln with
   | .str s=>
    let acc1:=Dw++List.replicate (2*d) 32++s++[10]
    let kidsK:Ap->IT:=AY.foldr (λLF K Dw=>match LF with
     |[.int .i64 y]=>GW line a fuel y (d+1) Dw K
     |_=> .fail) k
    if acc1.length<=AS then(if c=0 then kidsK acc1 else GW line a fuel c (d+1) acc1 kidsK) else .fail
   |_=> .fail
  |_=> .fail
def lN(line:FuncId):List Aa->IT
 |[a,.int .i64 x]=>GW line a 100 x 0 [] λDw=> .ret .ret [.str Dw]
 |_=> .fail
def F7(cs:List Aa)(off:Nat)(h:Int)(k:Nat):Option Int:=
 match cs[off+(h.toNat-1)*13+k]? with
 |some (.int .i64 n)=>some n
 |_=>none
def KA(cs:List Aa)(off n:Nat)(up:Int):Nat->Int->Option Bool
 |_,0=>some false
 |0,_=>none
 |fuel+1,h=>if h=up then some true else if 1<=h/\h<=n then
   match F7 cs off h 1,F7 cs off h 12 with
   |some p,some q=>KA cs off n up fuel (if p=0 then q else p)
   |_,_=>none
  else none
def Mk(h:Ad):List Aa->Option (Ad×Aa)
 |[.ptr (some (id,0)),.int .i64 up,.int .i64 x]=>match h[id]? with
  |some (.cells (.slnil::_))=>some (h,.bool false)
  |some (.cells (.Cl nid off n 13::_))=>match h[nid]? with
   |some (.cells cs)=>if off+n*13<=cs.length then
    (if 1<=up/\up<=n/\1<=x/\x<=n then(KA cs off n up (n+1) x).map λb=>(h,.bool b) else some (h,.bool false)) else none
   |_=>none
  |_=>none
 |_=>none
def Ml(args:List Aa):IT:= .mem (.PK Mk) args λr=> .ret .ret [r]
def gD(t:TypeId)(h:Ad):List Aa->Option (Ad×Aa)
 |[.iface t' v]=>if t'=t then some (h,v) else none
 |_=>none
def U2(make method:FuncId)(t:TypeId):List Aa->IT
 |[.ptr (some (id,0)),s]=> .load (some 3) (.ptr (some (id,0))) λv=> .same v (.agg [.int .u32 0,.int .i32 0,.int .u32 0]) (
  .store 1 (.ptr (some (id,1))) (.int .i32 1) (
  .call make [.ptr (some (id,0))] λ_=>
  .load (some 3) (.ptr (some (id,0))) λv=> .same v (.agg [.int .u32 0,.int .i32 1,.int .u32 0]) (
  .store 1 (.ptr (some (id,0))) (.int .u32 1) (
  .store 1 (.ptr (some (id,1))) (.int .i32 0) (
  .load none (.ptr (some (id,3))) λv=> .mem (.PK (gD t)) [v] λu=> .call method [u,s] λr=> .ret .ret [r])))))
 |_=> .fail
def T0(h:Ad):List Aa->Option (Ad×Aa)
 |[]=>some (h++[.CG]++[.cells [.int .i64 0,.int .i64 0,.slnil,.int .i64 0,.int .i64 0,.str [],.slnil,.str [],.str [],.str [],.bool false,.int .i64 0,.int .i64 0]]++[.cells [.int .i64 0]]++
  [.cells [.Cl (h.length+1) 0 1 13,.Cl (h.length+2) 0 1 1]],.ptr (some (h.length+3,0)))
 |_=>none
def T1(args:List Aa):IT:= .mem (.PK T0) args λr=> .ret .ret [r]
end Go.Am
