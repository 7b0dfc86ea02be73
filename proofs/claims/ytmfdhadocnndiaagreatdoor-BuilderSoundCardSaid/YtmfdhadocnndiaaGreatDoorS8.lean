/- Lemmas -/
import Derived.Test.YtmfdhadocnndiaaGreatDoorS1
set_option linter.all false
namespace Go.Am
open Go
mutual
def Aa.still:Aa->Bool
 | .ptr (some _)| .CI _ _ _ _| .map (some _)=>false
 | .B3 cs| .agg cs| .tuple cs=>H6 cs
 | .sl _ Af=>KW Af
 | .func _ a b=>H6 a&&H6 b
 | .iface _ v=>Aa.still v
 |_=>true
def H6:List Aa->Bool
 |[]=>true
 |a::l=>Aa.still a&&H6 l
def KW:List (List Aa)->Bool
 |[]=>true
 |a::l=>H6 a&&KW l
end
def nR(h:Ah):List Aa->Option (Ah×Aa)
 |[.ptr (some (id,0)),.int .i64 x]=>match h[id]? with
  |some (.cells (.CI b off n 13::_))=>match h[b]? with
   |some (.cells cs)=>if 1<=x/\x<=n/\off+n*13<=cs.length then
     match(cs.drop (off+(x.toNat-1)*13)).take 13 with
     |[o,l,p,k,j,i,g,f,e,d,Yg,.int .i64 c,jf]=>
      if H6 [o,l,k,j,i,g,f,e,d,Yg,jf] then
       match p with
       | .slnil=>some (h,.tuple [.B3 [o,l,.slnil,k,j,i,g,f,e,d,Yg,.int .i64 c,jf],.int .i64 c,.sl 1 []])
       | .CI Kq a m 1=>match h[Kq]? with
        |some (.cells ks)=>if a+m*1<=ks.length/\KW (Cf ks 1 a m)=true then
         some (h,.tuple [.B3 [o,l,.sl 1 (Cf ks 1 a m),k,j,i,g,f,e,d,Yg,.int .i64 c,jf],.int .i64 c,.sl 1 (Cf ks 1 a m)]) else none
        |_=>none
       |_=>none
      else none
     |_=>none
    else none
   |_=>none
  |_=>none
 |_=>none
def Gy(line:FuncId)(a:Aa):Nat->Int->Nat->Au->(Au->IT)->IT
 |0,_,_,_,_=> .fail
 |fuel+1,x,d,Dh,k=> .mem (.Qn nR) [a,.int .i64 x] λr=>match r with
  | .tuple [.B3 row,.int _ c,.sl _ AX]=> .qS line [.B3 row] λln=>match ln with
   | .str s=>
    let e:=Dh++List.replicate (2*d) 32++s++[10]
    let b:Au->IT:=AX.foldr (λKq K Dh=>match Kq with
     |[.int .i64 y]=>Gy line a fuel y (d+1) Dh K
     |_=> .fail) k
    if e.length<=AN then(if c=0 then b e else Gy line a fuel c (d+1) e b) else .fail
   |_=> .fail
  |_=> .fail
def iE(line:FuncId):List Aa->IT
 |[a,.int .i64 x]=>Gy line a 100 x 0 [] λDh=> .ret .ret [.str Dh]
 |_=> .fail
def FH(cs:List Aa)(off:Nat)(h:Int)(k:Nat):Option Int:=
 match cs[off+(h.toNat-1)*13+k]? with
 |some (.int .i64 n)=>some n
 |_=>none
def J0(cs:List Aa)(off n:Nat)(up:Int):Nat->Int->Option Bool
 |_,0=>some false
 |0,_=>none
 |fuel+1,h=>if h=up then some true else if 1<=h/\h<=n then
   match FH cs off h 1,FH cs off h 12 with
   |some p,some q=>J0 cs off n up fuel (if p=0 then q else p)
   |_,_=>none
  else none
def LK(h:Ah):List Aa->Option (Ah×Aa)
 |[.ptr (some (id,0)),.int .i64 up,.int .i64 x]=>match h[id]? with
  |some (.cells (.slnil::_))=>some (h,.bool false)
  |some (.cells (.CI a off n 13::_))=>match h[a]? with
   |some (.cells cs)=>if off+n*13<=cs.length then
    (if 1<=up/\up<=n/\1<=x/\x<=n then(J0 cs off n up (n+1) x).map λb=>(h,.bool b) else some (h,.bool false)) else none
   |_=>none
  |_=>none
 |_=>none
def LL(args:List Aa):IT:= .mem (.Qn LK) args λr=> .ret .ret [r]
def cJ(t:TypeId)(h:Ah):List Aa->Option (Ah×Aa)
 |[.iface t' v]=>if t'=t then some (h,v) else none
 |_=>none
def Tr(make method:FuncId)(t:TypeId):List Aa->IT
 |[.ptr (some (id,0)),s]=> .load (some 3) (.ptr (some (id,0))) λv=> .same v (.agg [.int .u32 0,.int .i32 0,.int .u32 0]) (
  .store 1 (.ptr (some (id,1))) (.int .i32 1) (
  .call make [.ptr (some (id,0))] λ_=>
  .load (some 3) (.ptr (some (id,0))) λv=> .same v (.agg [.int .u32 0,.int .i32 1,.int .u32 0]) (
  .store 1 (.ptr (some (id,0))) (.int .u32 1) (
  .store 1 (.ptr (some (id,1))) (.int .i32 0) (
  .load none (.ptr (some (id,3))) λv=> .mem (.Qn (cJ t)) [v] λu=> .call method [u,s] λr=> .ret .ret [r])))))
 |_=> .fail
def nT(x:Int):Bool:=decide (-9223372036854775808<=x)&&decide (x<9223372036854775808)
def jg(r:List Aa):Option Int:=match r[(1:Nat)]?,r[(12:Nat)]? with
 |some (.int .i64 p),some (.int .i64 q)=>some (if p=0 then q else p)
 |_,_=>none
def WX(Af:List (List Aa))(x:Int):Option Int:=if 1<=x/\x<=(Af.length:Int) then(Af[(x-1).toNat]?).bind jg else none
def Hb(Af:List (List Aa)):Nat->Int->Bool
 |_,0=>true
 |0,_=>false
 |f+1,x=>match WX Af x with
  |some y=>Hb Af f y
  |none=>false
def NS(h:Ah):List Aa->Option (Ah×Aa)
 |[.sl 13 Af]=>if(decide (Af.length<=1000000000)&&(List.range Af.length).all λi=>Hb Af (Af.length+1) ((i:Int)+1))=true then some (h,.bool true) else none
 |_=>none
def PD(args:List Aa):IT:= .mem (.Qn NS) args λr=> .ret .ret [r]
end Go.Am
