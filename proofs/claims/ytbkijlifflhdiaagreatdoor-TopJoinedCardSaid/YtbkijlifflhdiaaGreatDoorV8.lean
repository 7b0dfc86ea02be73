/- Lemmas -/
import Derived.Test.YtbkijlifflhdiaaGreatDoorV1
set_option linter.all false
namespace Go.Am
open Go
mutual
def Aa.still:Aa->Bool
 | .ptr (some _)| .CG _ _ _ _| .map (some _)=>false
 | .Cb cs| .agg cs| .tuple cs=>HS cs
 | .sl _ An=>KT An
 | .func _ a b=>HS a&&HS b
 | .iface _ v=>Aa.still v
 |_=>true
def HS:List Aa->Bool
 |[]=>true
 |a::l=>Aa.still a&&HS l
def KT:List (List Aa)->Bool
 |[]=>true
 |a::l=>HS a&&KT l
end
def lY(h:Ag):List Aa->Option (Ag×Aa)
 |[.ptr (some (id,0)),.int .i64 x]=>match h[id]? with
  |some (.cells (.CG b off n 13::_))=>match h[b]? with
   |some (.cells cs)=>if 1<=x/\x<=n/\off+n*13<=cs.length then
     match(cs.drop (off+(x.toNat-1)*13)).take 13 with
     |[l,c1,c2,k,j,i,g,f,e,d,X2,.int .i64 c,fq]=>
      if HS [l,c1,k,j,i,g,f,e,d,X2,fq] then
       match c2 with
       | .slnil=>some (h,.tuple [.Cb [l,c1,.slnil,k,j,i,g,f,e,d,X2,.int .i64 c,fq],.int .i64 c,.sl 1 []])
       | .CG KU a m 1=>match h[KU]? with
        |some (.cells ks)=>if a+m*1<=ks.length/\KT (B9 ks 1 a m)=true then
         some (h,.tuple [.Cb [l,c1,.sl 1 (B9 ks 1 a m),k,j,i,g,f,e,d,X2,.int .i64 c,fq],.int .i64 c,.sl 1 (B9 ks 1 a m)]) else none
        |_=>none
       |_=>none
      else none
     |_=>none
    else none
   |_=>none
  |_=>none
 |_=>none
def Gj(line:FuncId)(a:Aa):Nat->Int->Nat->Aq->(Aq->IT)->IT
 |0,_,_,_,_=> .fail
 |fuel+1,x,d,C2,k=> .mem (.P3 lY) [a,.int .i64 x] λr=>match r with
  | .tuple [.Cb row,.int _ c,.sl _ AP]=> .pD line [.Cb row] λln=>match ln with
   | .str s=>
    let e:=C2++List.replicate (2*d) 32++s++[10]
    let b:Aq->IT:=AP.foldr (λKU K C2=>match KU with
     |[.int .i64 y]=>Gj line a fuel y (d+1) C2 K
     |_=> .fail) k
    if e.length<=AO then(if c=0 then b e else Gj line a fuel c (d+1) e b) else .fail
   |_=> .fail
  |_=> .fail
def gN(line:FuncId):List Aa->IT
 |[a,.int .i64 x]=>Gj line a 100 x 0 [] λC2=> .ret .ret [.str C2]
 |_=> .fail
def Fq(cs:List Aa)(off:Nat)(h:Int)(k:Nat):Option Int:=
 match cs[off+(h.toNat-1)*13+k]? with
 |some (.int .i64 n)=>some n
 |_=>none
def JL(cs:List Aa)(off n:Nat)(up:Int):Nat->Int->Option Bool
 |_,0=>some false
 |0,_=>none
 |fuel+1,h=>if h=up then some true else if 1<=h/\h<=n then
   match Fq cs off h 1,Fq cs off h 12 with
   |some p,some q=>JL cs off n up fuel (if p=0 then q else p)
   |_,_=>none
  else none
def LF(h:Ag):List Aa->Option (Ag×Aa)
 |[.ptr (some (id,0)),.int .i64 up,.int .i64 x]=>match h[id]? with
  |some (.cells (.slnil::_))=>some (h,.bool false)
  |some (.cells (.CG a off n 13::_))=>match h[a]? with
   |some (.cells cs)=>if off+n*13<=cs.length then
    (if 1<=up/\up<=n/\1<=x/\x<=n then(JL cs off n up (n+1) x).map λb=>(h,.bool b) else some (h,.bool false)) else none
   |_=>none
  |_=>none
 |_=>none
def LG(args:List Aa):IT:= .mem (.P3 LF) args λr=> .ret .ret [r]
def bP(t:TypeId)(h:Ag):List Aa->Option (Ag×Aa)
 |[.iface t' v]=>if t'=t then some (h,v) else none
 |_=>none
def Tb(make method:FuncId)(t:TypeId):List Aa->IT
 |[.ptr (some (id,0)),s]=> .load (some 3) (.ptr (some (id,0))) λv=> .same v (.agg [.int .u32 0,.int .i32 0,.int .u32 0]) (
  .store 1 (.ptr (some (id,1))) (.int .i32 1) (
  .call make [.ptr (some (id,0))] λ_=>
  .load (some 3) (.ptr (some (id,0))) λv=> .same v (.agg [.int .u32 0,.int .i32 1,.int .u32 0]) (
  .store 1 (.ptr (some (id,0))) (.int .u32 1) (
  .store 1 (.ptr (some (id,1))) (.int .i32 0) (
  .load none (.ptr (some (id,3))) λv=> .mem (.P3 (bP t)) [v] λu=> .call method [u,s] λr=> .ret .ret [r])))))
 |_=> .fail
def lZ(x:Int):Bool:=decide (-9223372036854775808<=x)&&decide (x<9223372036854775808)
def Kh(ks:List Aa):Nat->Nat->Option (List Int)
 |_,0=>some []
 |o,m+1=>match ks[o]? with
  |some (.int .i64 y)=>(Kh ks (o+1) m).map (y::·)
  |_=>none
def Tc(h:Ag)(id:Nat)(x:Int):Option (List Int):=match h[id]? with
 |some (.cells (.CG a off n 13::_))=>match h[a]? with
  |some (.cells cs)=>if 1<=x/\x<=(n:Int) then match cs[off+(x.toNat-1)*13+2]? with
   |some .slnil=>some []
   |some (.CG KU b m 1)=>match h[KU]? with
    |some (.cells ks)=>if m<=1000000000 then Kh ks b m else none
    |_=>none
   |_=>none else none
  |_=>none
 |_=>none
def l8(f:Int->Option (List Int)):List Int->Option (List Int)
 |[]=>some []
 |y::l=>match f y,l8 f l with
  |some a,some b=>some (y::a++b)
  |_,_=>none
def Rc(h:Ag)(id:Nat):Nat->Int->Option (List Int)
 |0,_=>none
 |f+1,x=>(Tc h id x).bind (l8 (Rc h id f))
def rG(h:Ag):List Aa->Option (Ag×Aa)
 |[.ptr (some (id,0)),.int .i64 x]=>match h[id]? with
  |some (.cells (.CG a off n 13::_))=>match Rc h id (n+1) x with
   |some l=>if l.length<=1000000000 then some (h,.sl 1 (l.map λy=>[.int .i64 y])) else none
   |none=>none
  |_=>none
 |_=>none
def Ov(EM:FuncId)(a:Aa)(k:IT):List (List Aa)->IT
 |[]=>k
 |[y]::l=> .call EM [a,y] λ_=>Ov EM a k l
 |_=> .fail
def Ki(check EM:FuncId):List Aa->IT
 |[a,x]=> .call check [a,.int .i64 (-1),.sl 1 [[x]]] λr=> .same r (.int .i64 0) (.call EM [a,x] λ_=> .mem (.P3 rG) [a,x] λr=>match r with
  | .sl 1 An=>Ov EM a (.ret .ret [.int .i64 0]) An
  |_=> .fail)
 |_=> .fail
end Go.Am
