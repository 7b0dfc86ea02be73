/- Lemmas -/
import Derived.Test.YtkaolmlpcamojaaGreatDoorH1
set_option linter.all false
namespace Go.Am
open Go
mutual
def Aa.still:Aa->Bool
 | .ptr (some _)| .CE _ _ _ _| .map (some _)=>false
 | .CI cs| .agg cs| .tuple cs=>JW cs
 | .sl _ AE=>Nk AE
 | .func _ a b=>JW a&&JW b
 | .iface _ v=>Aa.still v
 |_=>true
def JW:List Aa->Bool
 |[]=>true
 |a::l=>Aa.still a&&JW l
def Nk:List (List Aa)->Bool
 |[]=>true
 |a::l=>JW a&&Nk l
end
def kz(h:Ai):List Aa->Option (Ai×Aa)
 |[.ptr (some (id,0)),.int .i64 x]=>match h[id]? with
  |some (.cells (.CE d off n 13::_))=>match h[d]? with
   |some (.cells cs)=>if 1<=x/\x<=n/\off+n*13<=cs.length then
     match(cs.drop (off+(x.toNat-1)*13)).take 13 with
     |[p,o,q,l,k,j,i,g,f,e,Wb,.int .i64 c,a]=>
      if JW [p,o,l,k,j,i,g,f,e,Wb,a] then
       match q with
       | .slnil=>some (h,.tuple [.CI [p,o,.slnil,l,k,j,i,g,f,e,Wb,.int .i64 c,a],.int .i64 c,.sl 1 []])
       | .CE Nl b m 1=>match h[Nl]? with
        |some (.cells ks)=>if b+m*1<=ks.length/\Nk (Cz ks 1 b m)=true then
         some (h,.tuple [.CI [p,o,.sl 1 (Cz ks 1 b m),l,k,j,i,g,f,e,Wb,.int .i64 c,a],.int .i64 c,.sl 1 (Cz ks 1 b m)]) else none
        |_=>none
       |_=>none
      else none
     |_=>none
    else none
   |_=>none
  |_=>none
 |_=>none
def Ie(line:FuncId)(a:Aa):Nat->Int->Nat->Aj->(Aj->IT)->IT
 |0,_,_,_,_=> .fail
 |fuel+1,x,d,DZ,k=> .mem (.RJ kz) [a,.int .i64 x] λr=>match r with
  | .tuple [.CI row,.int _ c,.sl _ Bc]=> .yM line [.CI row] λln=>match ln with
   | .str s=>
    let e:=DZ++List.replicate (2*d) 32++s++[10]
    let b:Aj->IT:=Bc.foldr (λNl K DZ=>match Nl with
     |[.int .i64 y]=>Ie line a fuel y (d+1) DZ K
     |_=> .fail) k
    if e.length<=AW then(if c=0 then b e else Ie line a fuel c (d+1) e b) else .fail
   |_=> .fail
  |_=> .fail
def zP(line:FuncId):List Aa->IT
 |[a,.int .i64 x]=>Ie line a 100 x 0 [] λDZ=> .ret .ret [.str DZ]
 |_=> .fail
def Ha(cs:List Aa)(off:Nat)(h:Int)(k:Nat):Option Int:=
 match cs[off+(h.toNat-1)*13+k]? with
 |some (.int .i64 n)=>some n
 |_=>none
def Md(cs:List Aa)(off n:Nat)(up:Int):Nat->Int->Option Bool
 |_,0=>some false
 |0,_=>none
 |fuel+1,h=>if h=up then some true else if 1<=h/\h<=n then
   match Ha cs off h 1,Ha cs off h 12 with
   |some p,some q=>Md cs off n up fuel (if p=0 then q else p)
   |_,_=>none
  else none
def N6(h:Ai):List Aa->Option (Ai×Aa)
 |[.ptr (some (id,0)),.int .i64 up,.int .i64 x]=>match h[id]? with
  |some (.cells (.slnil::_))=>some (h,.bool false)
  |some (.cells (.CE a off n 13::_))=>match h[a]? with
   |some (.cells cs)=>if off+n*13<=cs.length then
    (if 1<=up/\up<=n/\1<=x/\x<=n then(Md cs off n up (n+1) x).map λb=>(h,.bool b) else some (h,.bool false)) else none
   |_=>none
  |_=>none
 |_=>none
def N7(args:List Aa):IT:= .mem (.RJ N6) args λr=> .ret .ret [r]
def uI(t:TypeId)(h:Ai):List Aa->Option (Ai×Aa)
 |[.iface t' v]=>if t'=t then some (h,v) else none
 |_=>none
def Yc(make method:FuncId)(t:TypeId):List Aa->IT
 |[.ptr (some (id,0)),s]=> .load (some 3) (.ptr (some (id,0))) λv=> .same v (.agg [.int .u32 0,.int .i32 0,.int .u32 0]) (
  .store 1 (.ptr (some (id,1))) (.int .i32 1) (
  .call make [.ptr (some (id,0))] λ_=>
  .load (some 3) (.ptr (some (id,0))) λv=> .same v (.agg [.int .u32 0,.int .i32 1,.int .u32 0]) (
  .store 1 (.ptr (some (id,0))) (.int .u32 1) (
  .store 1 (.ptr (some (id,1))) (.int .i32 0) (
  .load none (.ptr (some (id,3))) λv=> .mem (.RJ (uI t)) [v] λu=> .call method [u,s] λr=> .ret .ret [r])))))
 |_=> .fail
def WK(h:Ai):List Aa->Option (Ai×Aa)
 |[]=>some (h++[.CR]++[.cells [.int .i64 0,.int .i64 0,.slnil,.int .i64 0,.int .i64 0,.str [],.slnil,.str [],.str [],.str [],.bool false,.int .i64 0,.int .i64 0]]++[.cells [.int .i64 0]]++
  [.cells [.CE (h.length+1) 0 1 13,.CE (h.length+2) 0 1 1]],.ptr (some (h.length+3,0)))
 |_=>none
def WL(args:List Aa):IT:= .mem (.RJ WK) args λr=> .ret .ret [r]
def k_(x:Int):Bool:=decide (-9223372036854775808<=x)&&decide (x<9223372036854775808)
end Go.Am
