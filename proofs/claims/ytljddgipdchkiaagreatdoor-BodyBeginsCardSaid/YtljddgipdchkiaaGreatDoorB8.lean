/- Lemmas -/
import Derived.Test.YtljddgipdchkiaaGreatDoorB1
set_option linter.all false
namespace Go.Am
open Go
mutual
def Aa.still:Aa->Bool
 | .ptr (some _)| .CE _ _ _ _| .map (some _)=>false
 | .CG cs| .agg cs| .tuple cs=>JL cs
 | .sl _ AD=>MT AD
 | .func _ a b=>JL a&&JL b
 | .iface _ v=>Aa.still v
 |_=>true
def JL:List Aa->Bool
 |[]=>true
 |a::l=>Aa.still a&&JL l
def MT:List (List Aa)->Bool
 |[]=>true
 |a::l=>JL a&&MT l
end
def db(h:Ah):List Aa->Option (Ah×Aa)
 |[.ptr (some (id,0)),.int .i64 x]=>match h[id]? with
  |some (.cells (.CE b off n 13::_))=>match h[b]? with
   |some (.cells cs)=>if 1<=x/\x<=n/\off+n*13<=cs.length then
     match(cs.drop (off+(x.toNat-1)*13)).take 13 with
     |[o,l,p,k,j,i,g,f,e,d,U7,.int .i64 c,Œ]=>
      if JL [o,l,k,j,i,g,f,e,d,U7,Œ] then
       match p with
       | .slnil=>some (h,.tuple [.CG [o,l,.slnil,k,j,i,g,f,e,d,U7,.int .i64 c,Œ],.int .i64 c,.sl 1 []])
       | .CE MK a m 1=>match h[MK]? with
        |some (.cells ks)=>if a+m*1<=ks.length/\MT (CA ks 1 a m)=true then
         some (h,.tuple [.CG [o,l,.sl 1 (CA ks 1 a m),k,j,i,g,f,e,d,U7,.int .i64 c,Œ],.int .i64 c,.sl 1 (CA ks 1 a m)]) else none
        |_=>none
       |_=>none
      else none
     |_=>none
    else none
   |_=>none
  |_=>none
 |_=>none
def HT(line:FuncId)(a:Aa):Nat->Int->Nat->Ao->(Ao->IT)->IT
 |0,_,_,_,_=> .fail
 |fuel+1,x,d,DW,k=> .mem (.Q5 db) [a,.int .i64 x] λr=>match r with
  | .tuple [.CG row,.int _ c,.sl _ A6]=> .uV line [.CG row] λln=>match ln with
   | .str s=>
    let e:=DW++List.replicate (2*d) 32++s++[10]
    let b:Ao->IT:=A6.foldr (λMK K DW=>match MK with
     |[.int .i64 y]=>HT line a fuel y (d+1) DW K
     |_=> .fail) k
    if e.length<=AM then(if c=0 then b e else HT line a fuel c (d+1) e b) else .fail
   |_=> .fail
  |_=> .fail
def vY(line:FuncId):List Aa->IT
 |[a,.int .i64 x]=>HT line a 100 x 0 [] λDW=> .ret .ret [.str DW]
 |_=> .fail
def GP(cs:List Aa)(off:Nat)(h:Int)(k:Nat):Option Int:=
 match cs[off+(h.toNat-1)*13+k]? with
 |some (.int .i64 n)=>some n
 |_=>none
def LM(cs:List Aa)(off n:Nat)(up:Int):Nat->Int->Option Bool
 |_,0=>some false
 |0,_=>none
 |fuel+1,h=>if h=up then some true else if 1<=h/\h<=n then
   match GP cs off h 1,GP cs off h 12 with
   |some p,some q=>LM cs off n up fuel (if p=0 then q else p)
   |_,_=>none
  else none
def Nv(h:Ah):List Aa->Option (Ah×Aa)
 |[.ptr (some (id,0)),.int .i64 up,.int .i64 x]=>match h[id]? with
  |some (.cells (.slnil::_))=>some (h,.bool false)
  |some (.cells (.CE a off n 13::_))=>match h[a]? with
   |some (.cells cs)=>if off+n*13<=cs.length then
    (if 1<=up/\up<=n/\1<=x/\x<=n then(LM cs off n up (n+1) x).map λb=>(h,.bool b) else some (h,.bool false)) else none
   |_=>none
  |_=>none
 |_=>none
def Nw(args:List Aa):IT:= .mem (.Q5 Nv) args λr=> .ret .ret [r]
def qT(t:TypeId)(h:Ah):List Aa->Option (Ah×Aa)
 |[.iface t' v]=>if t'=t then some (h,v) else none
 |_=>none
def Xg(make method:FuncId)(t:TypeId):List Aa->IT
 |[.ptr (some (id,0)),s]=> .load (some 3) (.ptr (some (id,0))) λv=> .same v (.agg [.int .u32 0,.int .i32 0,.int .u32 0]) (
  .store 1 (.ptr (some (id,1))) (.int .i32 1) (
  .call make [.ptr (some (id,0))] λ_=>
  .load (some 3) (.ptr (some (id,0))) λv=> .same v (.agg [.int .u32 0,.int .i32 1,.int .u32 0]) (
  .store 1 (.ptr (some (id,0))) (.int .u32 1) (
  .store 1 (.ptr (some (id,1))) (.int .i32 0) (
  .load none (.ptr (some (id,3))) λv=> .mem (.Q5 (qT t)) [v] λu=> .call method [u,s] λr=> .ret .ret [r])))))
 |_=> .fail
def VE(h:Ah):List Aa->Option (Ah×Aa)
 |[]=>some (h++[.CO]++[.cells [.int .i64 0,.int .i64 0,.slnil,.int .i64 0,.int .i64 0,.str [],.slnil,.str [],.str [],.str [],.bool false,.int .i64 0,.int .i64 0]]++[.cells [.int .i64 0]]++
  [.cells [.CE (h.length+1) 0 1 13,.CE (h.length+2) 0 1 1]],.ptr (some (h.length+3,0)))
 |_=>none
def VF(args:List Aa):IT:= .mem (.Q5 VE) args λr=> .ret .ret [r]
def dd(x:Int):Bool:=decide (-9223372036854775808<=x)&&decide (x<9223372036854775808)
end Go.Am
