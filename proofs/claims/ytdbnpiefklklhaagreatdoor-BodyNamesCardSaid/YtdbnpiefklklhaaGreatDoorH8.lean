/- Lemmas -/
import Derived.Test.YtdbnpiefklklhaaGreatDoorH1
set_option linter.all false
namespace Go.Am
open Go
mutual
def Aa.still:Aa->Bool
 | .ptr (some _)| .C3 _ _ _ _| .map (some _)=>false
 | .BR cs| .agg cs| .tuple cs=>I6 cs
 | .sl _ Aw=>Mq Aw
 | .func _ a b=>I6 a&&I6 b
 | .iface _ v=>Aa.still v
 |_=>true
def I6:List Aa->Bool
 |[]=>true
 |a::l=>Aa.still a&&I6 l
def Mq:List (List Aa)->Bool
 |[]=>true
 |a::l=>I6 a&&Mq l
end
def ao(h:Ai):List Aa->Option (Ai×Aa)
 |[.ptr (some (id,0)),.int .i64 x]=>match h[id]? with
  |some (.cells (.C3 b off n 13::_))=>match h[b]? with
   |some (.cells cs)=>if 1<=x/\x<=n/\off+n*13<=cs.length then
     match(cs.drop (off+(x.toNat-1)*13)).take 13 with
     |[o,l,p,k,j,i,g,f,e,d,eZ,.int .i64 c,ě]=>
      if I6 [o,l,k,j,i,g,f,e,d,eZ,ě] then
       match p with
       | .slnil=>some (h,.tuple [.BR [o,l,.slnil,k,j,i,g,f,e,d,eZ,.int .i64 c,ě],.int .i64 c,.sl 1 []])
       | .C3 PZ a m 1=>match h[PZ]? with
        |some (.cells ks)=>if a+m*1<=ks.length/\Mq (Cr ks 1 a m)=true then
         some (h,.tuple [.BR [o,l,.sl 1 (Cr ks 1 a m),k,j,i,g,f,e,d,eZ,.int .i64 c,ě],.int .i64 c,.sl 1 (Cr ks 1 a m)]) else none
        |_=>none
       |_=>none
      else none
     |_=>none
    else none
   |_=>none
  |_=>none
 |_=>none
def HA(line:FuncId)(a:Aa):Nat->Int->Nat->Ah->(Ah->IT)->IT
 |0,_,_,_,_=> .fail
 |fuel+1,x,d,DA,k=> .mem (.S8 ao) [a,.int .i64 x] λr=>match r with
  | .tuple [.BR row,.int _ c,.sl _ Bw]=> .qX line [.BR row] λln=>match ln with
   | .str s=>
    let e:=DA++List.replicate (2*d) 32++s++[10]
    let b:Ah->IT:=Bw.foldr (λPZ K DA=>match PZ with
     |[.int .i64 y]=>HA line a fuel y (d+1) DA K
     |_=> .fail) k
    if e.length<=AO then(if c=0 then b e else HA line a fuel c (d+1) e b) else .fail
   |_=> .fail
  |_=> .fail
def sD(line:FuncId):List Aa->IT
 |[a,.int .i64 x]=>HA line a 100 x 0 [] λDA=> .ret .ret [.str DA]
 |_=> .fail
def Gq(cs:List Aa)(off:Nat)(h:Int)(k:Nat):Option Int:=
 match cs[off+(h.toNat-1)*13+k]? with
 |some (.int .i64 n)=>some n
 |_=>none
def Lg(cs:List Aa)(off n:Nat)(up:Int):Nat->Int->Option Bool
 |_,0=>some false
 |0,_=>none
 |fuel+1,h=>if h=up then some true else if 1<=h/\h<=n then
   match Gq cs off h 1,Gq cs off h 12 with
   |some p,some q=>Lg cs off n up fuel (if p=0 then q else p)
   |_,_=>none
  else none
def M9(h:Ai):List Aa->Option (Ai×Aa)
 |[.ptr (some (id,0)),.int .i64 up,.int .i64 x]=>match h[id]? with
  |some (.cells (.slnil::_))=>some (h,.bool false)
  |some (.cells (.C3 a off n 13::_))=>match h[a]? with
   |some (.cells cs)=>if off+n*13<=cs.length then
    (if 1<=up/\up<=n/\1<=x/\x<=n then(Lg cs off n up (n+1) x).map λb=>(h,.bool b) else some (h,.bool false)) else none
   |_=>none
  |_=>none
 |_=>none
def Na(args:List Aa):IT:= .mem (.S8 M9) args λr=> .ret .ret [r]
def nC(t:TypeId)(h:Ai):List Aa->Option (Ai×Aa)
 |[.iface t' v]=>if t'=t then some (h,v) else none
 |_=>none
def Wp(make method:FuncId)(t:TypeId):List Aa->IT
 |[.ptr (some (id,0)),s]=> .load (some 3) (.ptr (some (id,0))) λv=> .same v (.agg [.int .u32 0,.int .i32 0,.int .u32 0]) (
  .store 1 (.ptr (some (id,1))) (.int .i32 1) (
  .call make [.ptr (some (id,0))] λ_=>
  .load (some 3) (.ptr (some (id,0))) λv=> .same v (.agg [.int .u32 0,.int .i32 1,.int .u32 0]) (
  .store 1 (.ptr (some (id,0))) (.int .u32 1) (
  .store 1 (.ptr (some (id,1))) (.int .i32 0) (
  .load none (.ptr (some (id,3))) λv=> .mem (.S8 (nC t)) [v] λu=> .call method [u,s] λr=> .ret .ret [r])))))
 |_=> .fail
def NN:List (Aa×Aa)->Option (List (Int×Int))
 |[]=>some []
 |(.int .i64 k,.int .i64 v)::l=>(NN l).map ((k,v)::·)
 |_=>none
def Wq(h:Ai):Option Nat->Option (List (Int×Int))
 |none=>some []
 |some id=>match h[id]? with
  |some (.map es)=>NN es
  |_=>none
def Yj(x:Int):Bool:=decide (-9223372036854775808<=x)&&decide (x<9223372036854775808)
def Q0(l:List (Int×Int)):Bool:=decide (l.length<=1000000000)&&decide (l.map (·.1)).Nodup&&l.all λp=>Yj p.1&&Yj p.2
def O7(l m:List (Int×Int)):Bool:=decide (l.length=m.length)&&l.all λp=>decide (p∈m)
def Ws(h:Ai):List Aa->Option (Ai×Aa)
 |[.map a,.map b]=>match Wq h a,Wq h b with
  |some l,some m=>if(Q0 l&&Q0 m&&O7 l m)=true then some (h,.bool true) else none
  |_,_=>none
 |_=>none
def Wt(args:List Aa):IT:= .mem (.S8 Ws) args λr=> .ret .ret [r]
end Go.Am
