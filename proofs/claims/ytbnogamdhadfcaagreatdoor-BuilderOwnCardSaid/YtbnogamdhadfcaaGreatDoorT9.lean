/- Lemmas -/
import Derived.Test.YtbnogamdhadfcaaGreatDoorT1
set_option linter.unusedVariables false
set_option linter.unusedSimpArgs false
namespace Go.Am
open Go
mutual
def Aa.still:Aa->Bool
 | .ptr (some _)| .Ck _ _ _ _| .map (some _)=>false
 | .CB cs| .agg cs| .tuple cs=>II cs
 | .sl _ Au=>LC Au
 | .func _ a b=>II a&&II b
 | .iface _ v=>Aa.still v
 |_=>true
def II:List Aa->Bool
 |[]=>true
 |a::l=>Aa.still a&&II l
def LC:List (List Aa)->Bool
 |[]=>true
 |a::l=>II a&&LC l
end
def rA(h:Ag):List Aa->Option (Ag×Aa)
 |[.ptr (some (id,0)),.int .i64 x]=>match h[id]? with
  |some (.cells (.Ck nid off n 13::_))=>match h[nid]? with
   |some (.cells cs)=>if 1<=x/\x<=n/\off+n*13<=cs.length then
     match(cs.drop (off+(x.toNat-1)*13)).take 13 with
     |[c0,c1,c2,c3,c4,c5,c6,c7,c8,c9,Tq,.int .i64 c,uo]=>
      if II [c0,c1,c3,c4,c5,c6,c7,c8,c9,Tq,uo] then
       match c2 with
       | .slnil=>some (h,.tuple [.CB [c0,c1,.slnil,c3,c4,c5,c6,c7,c8,c9,Tq,.int .i64 c,uo],.int .i64 c,.sl 1 []])
       | .Ck LD ko m 1=>match h[LD]? with
        |some (.cells ks)=>if ko+m*1<=ks.length/\LC (Cm ks 1 ko m)=true then
         some (h,.tuple [.CB [c0,c1,.sl 1 (Cm ks 1 ko m),c3,c4,c5,c6,c7,c8,c9,Tq,.int .i64 c,uo],.int .i64 c,.sl 1 (Cm ks 1 ko m)]) else none
        |_=>none
       |_=>none
      else none
     |_=>none
    else none
   |_=>none
  |_=>none
 |_=>none
def Hb(line:FuncId)(a:Aa):Nat->Int->Nat->As->(As->IT)->IT
 |0,_,_,_,_=> .fail
 |fuel+1,x,d,Dw,k=> .mem (.PF rA) [a,.int .i64 x] λr=>match r with
  | .tuple [.CB row,.int _ c,.sl _ AZ]=> .uG line [.CB row] λln=>match ln with
   | .str s=>
    let acc1:=Dw++List.replicate (2*d) 32++s++[10]
    let kidsK:As->IT:=AZ.foldr (λLD K Dw=>match LD with
     |[.int .i64 y]=>Hb line a fuel y (d+1) Dw K
     |_=> .fail) k
    if acc1.length<=AT then(if c=0 then kidsK acc1 else Hb line a fuel c (d+1) acc1 kidsK) else .fail
   |_=> .fail
  |_=> .fail
def lB(line:FuncId):List Aa->IT
 |[a,.int .i64 x]=>Hb line a 100 x 0 [] λDw=> .ret .ret [.str Dw]
 |_=> .fail
def Ga(cs:List Aa)(off:Nat)(h:Int)(k:Nat):Option Int:=
 match cs[off+(h.toNat-1)*13+k]? with
 |some (.int .i64 n)=>some n
 |_=>none
def KC(cs:List Aa)(off n:Nat)(up:Int):Nat->Int->Option Bool
 |_,0=>some false
 |0,_=>none
 |fuel+1,h=>if h=up then some true else if 1<=h/\h<=n then
   match Ga cs off h 1,Ga cs off h 12 with
   |some p,some q=>KC cs off n up fuel (if p=0 then q else p)
   |_,_=>none
  else none
def Mf(h:Ag):List Aa->Option (Ag×Aa)
 |[.ptr (some (id,0)),.int .i64 up,.int .i64 x]=>match h[id]? with
  |some (.cells (.slnil::_))=>some (h,.bool false)
  |some (.cells (.Ck nid off n 13::_))=>match h[nid]? with
   |some (.cells cs)=>if off+n*13<=cs.length then
    (if 1<=up/\up<=n/\1<=x/\x<=n then(KC cs off n up (n+1) x).map λb=>(h,.bool b) else some (h,.bool false)) else none
   |_=>none
  |_=>none
 |_=>none
def Mg(args:List Aa):IT:= .mem (.PF Mf) args λr=> .ret .ret [r]
def fO(t:TypeId)(h:Ag):List Aa->Option (Ag×Aa)
 |[.iface t' v]=>if t'=t then some (h,v) else none
 |_=>none
def UX(make method:FuncId)(t:TypeId):List Aa->IT
 |[.ptr (some (id,0)),s]=> .load (some 3) (.ptr (some (id,0))) λv=> .same v (.agg [.int .u32 0,.int .i32 0,.int .u32 0]) (
  .store 1 (.ptr (some (id,1))) (.int .i32 1) (
  .call make [.ptr (some (id,0))] λ_=>
  .load (some 3) (.ptr (some (id,0))) λv=> .same v (.agg [.int .u32 0,.int .i32 1,.int .u32 0]) (
  .store 1 (.ptr (some (id,0))) (.int .u32 1) (
  .store 1 (.ptr (some (id,1))) (.int .i32 0) (
  .load none (.ptr (some (id,3))) λv=> .mem (.PF (fO t)) [v] λu=> .call method [u,s] λr=> .ret .ret [r])))))
 |_=> .fail
def TX(h:Ag):List Aa->Option (Ag×Aa)
 |[]=>some (h++[.CH]++[.cells [.int .i64 0,.int .i64 0,.slnil,.int .i64 0,.int .i64 0,.str [],.slnil,.str [],.str [],.str [],.bool false,.int .i64 0,.int .i64 0]]++[.cells [.int .i64 0]]++
  [.cells [.Ck (h.length+1) 0 1 13,.Ck (h.length+2) 0 1 1]],.ptr (some (h.length+3,0)))
 |_=>none
def TY(args:List Aa):IT:= .mem (.PF TX) args λr=> .ret .ret [r]
end Go.Am
