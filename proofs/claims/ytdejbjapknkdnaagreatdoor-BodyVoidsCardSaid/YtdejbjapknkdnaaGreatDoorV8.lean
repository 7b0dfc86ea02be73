/- Lemmas -/
import Derived.Test.YtdejbjapknkdnaaGreatDoorV1
set_option linter.all false
namespace Go.Am
open Go
mutual
def Aa.still:Aa->Bool
 | .ptr (some _)| .C7 _ _ _ _| .map (some _)=>false
 | .B4 cs| .agg cs| .tuple cs=>JJ cs
 | .sl _ As=>Nt As
 | .func _ a b=>JJ a&&JJ b
 | .iface _ v=>Aa.still v
 |_=>true
def JJ:List Aa->Bool
 |[]=>true
 |a::l=>Aa.still a&&JJ l
def Nt:List (List Aa)->Bool
 |[]=>true
 |a::l=>JJ a&&Nt l
end
def jy(h:Ae):List Aa->Option (Ae×Aa)
 |[.ptr (some (id,0)),.int .i64 x]=>match h[id]? with
  |some (.cells (.C7 d off n 13::_))=>match h[d]? with
   |some (.cells cs)=>if 1<=x/\x<=n/\off+n*13<=cs.length then
     match(cs.drop (off+(x.toNat-1)*13)).take 13 with
     |[p,o,q,l,k,j,i,g,f,e,jU,.int .i64 c,a]=>
      if JJ [p,o,l,k,j,i,g,f,e,jU,a] then
       match q with
       | .slnil=>some (h,.tuple [.B4 [p,o,.slnil,l,k,j,i,g,f,e,jU,.int .i64 c,a],.int .i64 c,.sl 1 []])
       | .C7 Rt b m 1=>match h[Rt]? with
        |some (.cells ks)=>if b+m*1<=ks.length/\Nt (Cv ks 1 b m)=true then
         some (h,.tuple [.B4 [p,o,.sl 1 (Cv ks 1 b m),l,k,j,i,g,f,e,jU,.int .i64 c,a],.int .i64 c,.sl 1 (Cv ks 1 b m)]) else none
        |_=>none
       |_=>none
      else none
     |_=>none
    else none
   |_=>none
  |_=>none
 |_=>none
def H9(line:FuncId)(a:Aa):Nat->Int->Nat->Ad->(Ad->IT)->IT
 |0,_,_,_,_=> .fail
 |fuel+1,x,d,DP,k=> .mem (.WX jy) [a,.int .i64 x] λr=>match r with
  | .tuple [.B4 row,.int _ c,.sl _ Bv]=> .u9 line [.B4 row] λln=>match ln with
   | .str s=>
    let e:=DP++List.replicate (2*d) 32++s++[10]
    let b:Ad->IT:=Bv.foldr (λRt K DP=>match Rt with
     |[.int .i64 y]=>H9 line a fuel y (d+1) DP K
     |_=> .fail) k
    if e.length<=AN then(if c=0 then b e else H9 line a fuel c (d+1) e b) else .fail
   |_=> .fail
  |_=> .fail
def wB(line:FuncId):List Aa->IT
 |[a,.int .i64 x]=>H9 line a 100 x 0 [] λDP=> .ret .ret [.str DP]
 |_=> .fail
def GG(cs:List Aa)(off:Nat)(h:Int)(k:Nat):Option Int:=
 match cs[off+(h.toNat-1)*13+k]? with
 |some (.int .i64 n)=>some n
 |_=>none
def Md(cs:List Aa)(off n:Nat)(up:Int):Nat->Int->Option Bool
 |_,0=>some false
 |0,_=>none
 |fuel+1,h=>if h=up then some true else if 1<=h/\h<=n then
   match GG cs off h 1,GG cs off h 12 with
   |some p,some q=>Md cs off n up fuel (if p=0 then q else p)
   |_,_=>none
  else none
def N9(h:Ae):List Aa->Option (Ae×Aa)
 |[.ptr (some (id,0)),.int .i64 up,.int .i64 x]=>match h[id]? with
  |some (.cells (.slnil::_))=>some (h,.bool false)
  |some (.cells (.C7 a off n 13::_))=>match h[a]? with
   |some (.cells cs)=>if off+n*13<=cs.length then
    (if 1<=up/\up<=n/\1<=x/\x<=n then(Md cs off n up (n+1) x).map λb=>(h,.bool b) else some (h,.bool false)) else none
   |_=>none
  |_=>none
 |_=>none
def Oa(args:List Aa):IT:= .mem (.WX N9) args λr=> .ret .ret [r]
def qK(t:TypeId)(h:Ae):List Aa->Option (Ae×Aa)
 |[.iface t' v]=>if t'=t then some (h,v) else none
 |_=>none
def XQ(make method:FuncId)(t:TypeId):List Aa->IT
 |[.ptr (some (id,0)),s]=> .load (some 3) (.ptr (some (id,0))) λv=> .same v (.agg [.int .u32 0,.int .i32 0,.int .u32 0]) (
  .store 1 (.ptr (some (id,1))) (.int .i32 1) (
  .call make [.ptr (some (id,0))] λ_=>
  .load (some 3) (.ptr (some (id,0))) λv=> .same v (.agg [.int .u32 0,.int .i32 1,.int .u32 0]) (
  .store 1 (.ptr (some (id,0))) (.int .u32 1) (
  .store 1 (.ptr (some (id,1))) (.int .i32 0) (
  .load none (.ptr (some (id,3))) λv=> .mem (.WX (qK t)) [v] λu=> .call method [u,s] λr=> .ret .ret [r])))))
 |_=> .fail
end Go.Am
