/- Lemmas -/
import Derived.Test.YtffmdapalbecoaaGreatDoorO1
set_option linter.all false
namespace Go.Am
open Go
mutual
def Aa.still:Aa->Bool
 | .ptr (some _)| .CC _ _ _ _| .map (some _)=>false
 | .CH cs| .agg cs| .tuple cs=>Ka cs
 | .sl _ AD=>NI AD
 | .func _ a b=>Ka a&&Ka b
 | .iface _ v=>Aa.still v
 |_=>true
def Ka:List Aa->Bool
 |[]=>true
 |a::l=>Aa.still a&&Ka l
def NI:List (List Aa)->Bool
 |[]=>true
 |a::l=>Ka a&&NI l
end
def ql(h:Ah):List Aa->Option (Ah×Aa)
 |[.ptr (some (id,0)),.int .i64 x]=>match h[id]? with
  |some (.cells (.CC b off n 13::_))=>match h[b]? with
   |some (.cells cs)=>if 1<=x/\x<=n/\off+n*13<=cs.length then
     match(cs.drop (off+(x.toNat-1)*13)).take 13 with
     |[o,l,p,k,j,i,g,f,e,d,SM,.int .i64 c,fq]=>
      if Ka [o,l,k,j,i,g,f,e,d,SM,fq] then
       match p with
       | .slnil=>some (h,.tuple [.CH [o,l,.slnil,k,j,i,g,f,e,d,SM,.int .i64 c,fq],.int .i64 c,.sl 1 []])
       | .CC NJ a m 1=>match h[NJ]? with
        |some (.cells ks)=>if a+m*1<=ks.length/\NI (CD ks 1 a m)=true then
         some (h,.tuple [.CH [o,l,.sl 1 (CD ks 1 a m),k,j,i,g,f,e,d,SM,.int .i64 c,fq],.int .i64 c,.sl 1 (CD ks 1 a m)]) else none
        |_=>none
       |_=>none
      else none
     |_=>none
    else none
   |_=>none
  |_=>none
 |_=>none
def It(line:FuncId)(a:Aa):Nat->Int->Nat->Ai->(Ai->IT)->IT
 |0,_,_,_,_=> .fail
 |fuel+1,x,d,Ed,k=> .mem (.Sx ql) [a,.int .i64 x] λr=>match r with
  | .tuple [.CH row,.int _ c,.sl _ Be]=> .dd line [.CH row] λln=>match ln with
   | .str s=>
    let e:=Ed++List.replicate (2*d) 32++s++[10]
    let b:Ai->IT:=Be.foldr (λNJ K Ed=>match NJ with
     |[.int .i64 y]=>It line a fuel y (d+1) Ed K
     |_=> .fail) k
    if e.length<=A0 then(if c=0 then b e else It line a fuel c (d+1) e b) else .fail
   |_=> .fail
  |_=> .fail
def fu(line:FuncId):List Aa->IT
 |[a,.int .i64 x]=>It line a 100 x 0 [] λEd=> .ret .ret [.str Ed]
 |_=> .fail
def Hs(cs:List Aa)(off:Nat)(h:Int)(k:Nat):Option Int:=
 match cs[off+(h.toNat-1)*13+k]? with
 |some (.int .i64 n)=>some n
 |_=>none
def Mn(cs:List Aa)(off n:Nat)(up:Int):Nat->Int->Option Bool
 |_,0=>some false
 |0,_=>none
 |fuel+1,h=>if h=up then some true else if 1<=h/\h<=n then
   match Hs cs off h 1,Hs cs off h 12 with
   |some p,some q=>Mn cs off n up fuel (if p=0 then q else p)
   |_,_=>none
  else none
def On(h:Ah):List Aa->Option (Ah×Aa)
 |[.ptr (some (id,0)),.int .i64 up,.int .i64 x]=>match h[id]? with
  |some (.cells (.slnil::_))=>some (h,.bool false)
  |some (.cells (.CC a off n 13::_))=>match h[a]? with
   |some (.cells cs)=>if off+n*13<=cs.length then
    (if 1<=up/\up<=n/\1<=x/\x<=n then(Mn cs off n up (n+1) x).map λb=>(h,.bool b) else some (h,.bool false)) else none
   |_=>none
  |_=>none
 |_=>none
def Oo(args:List Aa):IT:= .mem (.Sx On) args λr=> .ret .ret [r]
def xK(t:TypeId)(h:Ah):List Aa->Option (Ah×Aa)
 |[.iface t' v]=>if t'=t then some (h,v) else none
 |_=>none
def Y3(make method:FuncId)(t:TypeId):List Aa->IT
 |[.ptr (some (id,0)),s]=> .load (some 3) (.ptr (some (id,0))) λv=> .same v (.agg [.int .u32 0,.int .i32 0,.int .u32 0]) (
  .store 1 (.ptr (some (id,1))) (.int .i32 1) (
  .call make [.ptr (some (id,0))] λ_=>
  .load (some 3) (.ptr (some (id,0))) λv=> .same v (.agg [.int .u32 0,.int .i32 1,.int .u32 0]) (
  .store 1 (.ptr (some (id,0))) (.int .u32 1) (
  .store 1 (.ptr (some (id,1))) (.int .i32 0) (
  .load none (.ptr (some (id,3))) λv=> .mem (.Sx (xK t)) [v] λu=> .call method [u,s] λr=> .ret .ret [r])))))
 |_=> .fail
def XD(h:Ah):List Aa->Option (Ah×Aa)
 |[]=>some (h++[.CU]++[.cells [.int .i64 0,.int .i64 0,.slnil,.int .i64 0,.int .i64 0,.str [],.slnil,.str [],.str [],.str [],.bool false,.int .i64 0,.int .i64 0]]++[.cells [.int .i64 0]]++
  [.cells [.CC (h.length+1) 0 1 13,.CC (h.length+2) 0 1 1]],.ptr (some (h.length+3,0)))
 |_=>none
def XE(args:List Aa):IT:= .mem (.Sx XD) args λr=> .ret .ret [r]
def qm(x:Int):Bool:=decide (-9223372036854775808<=x)&&decide (x<9223372036854775808)
end Go.Am
