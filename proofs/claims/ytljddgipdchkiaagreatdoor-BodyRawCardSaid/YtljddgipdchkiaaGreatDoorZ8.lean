/- Lemmas -/
import Derived.Test.YtljddgipdchkiaaGreatDoorZ1
set_option linter.all false
namespace Go.Am
open Go
mutual
def Aa.still:Aa->Bool
 | .ptr (some _)| .CD _ _ _ _| .map (some _)=>false
 | .Cq cs| .agg cs| .tuple cs=>JD cs
 | .sl _ Az=>MN Az
 | .func _ a b=>JD a&&JD b
 | .iface _ v=>Aa.still v
 |_=>true
def JD:List Aa->Bool
 |[]=>true
 |a::l=>Aa.still a&&JD l
def MN:List (List Aa)->Bool
 |[]=>true
 |a::l=>JD a&&MN l
end
def xX(h:Ah):List Aa->Option (Ah×Aa)
 |[.ptr (some (id,0)),.int .i64 x]=>match h[id]? with
  |some (.cells (.CD b off n 13::_))=>match h[b]? with
   |some (.cells cs)=>if 1<=x/\x<=n/\off+n*13<=cs.length then
     match(cs.drop (off+(x.toNat-1)*13)).take 13 with
     |[o,l,p,k,j,i,g,f,e,d,UL,.int .i64 c,Ĳ]=>
      if JD [o,l,k,j,i,g,f,e,d,UL,Ĳ] then
       match p with
       | .slnil=>some (h,.tuple [.Cq [o,l,.slnil,k,j,i,g,f,e,d,UL,.int .i64 c,Ĳ],.int .i64 c,.sl 1 []])
       | .CD MO a m 1=>match h[MO]? with
        |some (.cells ks)=>if a+m*1<=ks.length/\MN (Cz ks 1 a m)=true then
         some (h,.tuple [.Cq [o,l,.sl 1 (Cz ks 1 a m),k,j,i,g,f,e,d,UL,.int .i64 c,Ĳ],.int .i64 c,.sl 1 (Cz ks 1 a m)]) else none
        |_=>none
       |_=>none
      else none
     |_=>none
    else none
   |_=>none
  |_=>none
 |_=>none
def HV(line:FuncId)(a:Aa):Nat->Int->Nat->Aq->(Aq->IT)->IT
 |0,_,_,_,_=> .fail
 |fuel+1,x,d,DX,k=> .mem (.QL xX) [a,.int .i64 x] λr=>match r with
  | .tuple [.Cq row,.int _ c,.sl _ A8]=> .o8 line [.Cq row] λln=>match ln with
   | .str s=>
    let e:=DX++List.replicate (2*d) 32++s++[10]
    let b:Aq->IT:=A8.foldr (λMO K DX=>match MO with
     |[.int .i64 y]=>HV line a fuel y (d+1) DX K
     |_=> .fail) k
    if e.length<=AX then(if c=0 then b e else HV line a fuel c (d+1) e b) else .fail
   |_=> .fail
  |_=> .fail
def qC(line:FuncId):List Aa->IT
 |[a,.int .i64 x]=>HV line a 100 x 0 [] λDX=> .ret .ret [.str DX]
 |_=> .fail
def GP(cs:List Aa)(off:Nat)(h:Int)(k:Nat):Option Int:=
 match cs[off+(h.toNat-1)*13+k]? with
 |some (.int .i64 n)=>some n
 |_=>none
def LG(cs:List Aa)(off n:Nat)(up:Int):Nat->Int->Option Bool
 |_,0=>some false
 |0,_=>none
 |fuel+1,h=>if h=up then some true else if 1<=h/\h<=n then
   match GP cs off h 1,GP cs off h 12 with
   |some p,some q=>LG cs off n up fuel (if p=0 then q else p)
   |_,_=>none
  else none
def Nq(h:Ah):List Aa->Option (Ah×Aa)
 |[.ptr (some (id,0)),.int .i64 up,.int .i64 x]=>match h[id]? with
  |some (.cells (.slnil::_))=>some (h,.bool false)
  |some (.cells (.CD a off n 13::_))=>match h[a]? with
   |some (.cells cs)=>if off+n*13<=cs.length then
    (if 1<=up/\up<=n/\1<=x/\x<=n then(LG cs off n up (n+1) x).map λb=>(h,.bool b) else some (h,.bool false)) else none
   |_=>none
  |_=>none
 |_=>none
def Nr(args:List Aa):IT:= .mem (.QL Nq) args λr=> .ret .ret [r]
def lL(t:TypeId)(h:Ah):List Aa->Option (Ah×Aa)
 |[.iface t' v]=>if t'=t then some (h,v) else none
 |_=>none
def Wx(make method:FuncId)(t:TypeId):List Aa->IT
 |[.ptr (some (id,0)),s]=> .load (some 3) (.ptr (some (id,0))) λv=> .same v (.agg [.int .u32 0,.int .i32 0,.int .u32 0]) (
  .store 1 (.ptr (some (id,1))) (.int .i32 1) (
  .call make [.ptr (some (id,0))] λ_=>
  .load (some 3) (.ptr (some (id,0))) λv=> .same v (.agg [.int .u32 0,.int .i32 1,.int .u32 0]) (
  .store 1 (.ptr (some (id,0))) (.int .u32 1) (
  .store 1 (.ptr (some (id,1))) (.int .i32 0) (
  .load none (.ptr (some (id,3))) λv=> .mem (.QL (lL t)) [v] λu=> .call method [u,s] λr=> .ret .ret [r])))))
 |_=> .fail
def Vp(h:Ah):List Aa->Option (Ah×Aa)
 |[]=>some (h++[.CT]++[.cells [.int .i64 0,.int .i64 0,.slnil,.int .i64 0,.int .i64 0,.str [],.slnil,.str [],.str [],.str [],.bool false,.int .i64 0,.int .i64 0]]++[.cells [.int .i64 0]]++
  [.cells [.CD (h.length+1) 0 1 13,.CD (h.length+2) 0 1 1]],.ptr (some (h.length+3,0)))
 |_=>none
def Vq(args:List Aa):IT:= .mem (.QL Vp) args λr=> .ret .ret [r]
def xY(x:Int):Bool:=decide (-9223372036854775808<=x)&&decide (x<9223372036854775808)
end Go.Am
