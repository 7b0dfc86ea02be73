/- Lemmas -/
import Derived.Test.YtemolpggcmbieaaGreatDoorZ1
set_option linter.all false
namespace Go.Am
open Go
mutual
def Aa.still:Aa->Bool
 | .ptr (some _)| .CW _ _ _ _| .map (some _)=>false
 | .BW cs| .agg cs| .tuple cs=>Jc cs
 | .sl _ Aw=>Mt Aw
 | .func _ a b=>Jc a&&Jc b
 | .iface _ v=>Aa.still v
 |_=>true
def Jc:List Aa->Bool
 |[]=>true
 |a::l=>Aa.still a&&Jc l
def Mt:List (List Aa)->Bool
 |[]=>true
 |a::l=>Jc a&&Mt l
end
def ao(h:Ah):List Aa->Option (Ah×Aa)
 |[.ptr (some (id,0)),.int .i64 x]=>match h[id]? with
  |some (.cells (.CW b off n 13::_))=>match h[b]? with
   |some (.cells cs)=>if 1<=x/\x<=n/\off+n*13<=cs.length then
     match(cs.drop (off+(x.toNat-1)*13)).take 13 with
     |[o,l,p,k,j,i,g,f,e,d,fC,.int .i64 c,Ğ]=>
      if Jc [o,l,k,j,i,g,f,e,d,fC,Ğ] then
       match p with
       | .slnil=>some (h,.tuple [.BW [o,l,.slnil,k,j,i,g,f,e,d,fC,.int .i64 c,Ğ],.int .i64 c,.sl 1 []])
       | .CW P2 a m 1=>match h[P2]? with
        |some (.cells ks)=>if a+m*1<=ks.length/\Mt (Cs ks 1 a m)=true then
         some (h,.tuple [.BW [o,l,.sl 1 (Cs ks 1 a m),k,j,i,g,f,e,d,fC,.int .i64 c,Ğ],.int .i64 c,.sl 1 (Cs ks 1 a m)]) else none
        |_=>none
       |_=>none
      else none
     |_=>none
    else none
   |_=>none
  |_=>none
 |_=>none
def Hy(line:FuncId)(a:Aa):Nat->Int->Nat->Ak->(Ak->IT)->IT
 |0,_,_,_,_=> .fail
 |fuel+1,x,d,DD,k=> .mem (.S3 ao) [a,.int .i64 x] λr=>match r with
  | .tuple [.BW row,.int _ c,.sl _ Bw]=> .qR line [.BW row] λln=>match ln with
   | .str s=>
    let e:=DD++List.replicate (2*d) 32++s++[10]
    let b:Ak->IT:=Bw.foldr (λP2 K DD=>match P2 with
     |[.int .i64 y]=>Hy line a fuel y (d+1) DD K
     |_=> .fail) k
    if e.length<=AK then(if c=0 then b e else Hy line a fuel c (d+1) e b) else .fail
   |_=> .fail
  |_=> .fail
def rV(line:FuncId):List Aa->IT
 |[a,.int .i64 x]=>Hy line a 100 x 0 [] λDD=> .ret .ret [.str DD]
 |_=> .fail
def Gq(cs:List Aa)(off:Nat)(h:Int)(k:Nat):Option Int:=
 match cs[off+(h.toNat-1)*13+k]? with
 |some (.int .i64 n)=>some n
 |_=>none
def Ln(cs:List Aa)(off n:Nat)(up:Int):Nat->Int->Option Bool
 |_,0=>some false
 |0,_=>none
 |fuel+1,h=>if h=up then some true else if 1<=h/\h<=n then
   match Gq cs off h 1,Gq cs off h 12 with
   |some p,some q=>Ln cs off n up fuel (if p=0 then q else p)
   |_,_=>none
  else none
def M9(h:Ah):List Aa->Option (Ah×Aa)
 |[.ptr (some (id,0)),.int .i64 up,.int .i64 x]=>match h[id]? with
  |some (.cells (.slnil::_))=>some (h,.bool false)
  |some (.cells (.CW a off n 13::_))=>match h[a]? with
   |some (.cells cs)=>if off+n*13<=cs.length then
    (if 1<=up/\up<=n/\1<=x/\x<=n then(Ln cs off n up (n+1) x).map λb=>(h,.bool b) else some (h,.bool false)) else none
   |_=>none
  |_=>none
 |_=>none
def Na(args:List Aa):IT:= .mem (.S3 M9) args λr=> .ret .ret [r]
def mY(t:TypeId)(h:Ah):List Aa->Option (Ah×Aa)
 |[.iface t' v]=>if t'=t then some (h,v) else none
 |_=>none
def Wt(make method:FuncId)(t:TypeId):List Aa->IT
 |[.ptr (some (id,0)),s]=> .load (some 3) (.ptr (some (id,0))) λv=> .same v (.agg [.int .u32 0,.int .i32 0,.int .u32 0]) (
  .store 1 (.ptr (some (id,1))) (.int .i32 1) (
  .call make [.ptr (some (id,0))] λ_=>
  .load (some 3) (.ptr (some (id,0))) λv=> .same v (.agg [.int .u32 0,.int .i32 1,.int .u32 0]) (
  .store 1 (.ptr (some (id,0))) (.int .u32 1) (
  .store 1 (.ptr (some (id,1))) (.int .i32 0) (
  .load none (.ptr (some (id,3))) λv=> .mem (.S3 (mY t)) [v] λu=> .call method [u,s] λr=> .ret .ret [r])))))
 |_=> .fail
def NV:List (Aa×Aa)->Option (List (Int×Int))
 |[]=>some []
 |(.int .i64 k,.int .i64 v)::l=>(NV l).map ((k,v)::·)
 |_=>none
def Wu(h:Ah):Option Nat->Option (List (Int×Int))
 |none=>some []
 |some id=>match h[id]? with
  |some (.map es)=>NV es
  |_=>none
def Yo(x:Int):Bool:=decide (-9223372036854775808<=x)&&decide (x<9223372036854775808)
def Q0(l:List (Int×Int)):Bool:=decide (l.length<=1000000000)&&decide (l.map (·.1)).Nodup&&l.all λp=>Yo p.1&&Yo p.2
def Pe(l m:List (Int×Int)):Bool:=decide (l.length=m.length)&&l.all λp=>decide (p∈m)
def Wv(h:Ah):List Aa->Option (Ah×Aa)
 |[.map a,.map b]=>match Wu h a,Wu h b with
  |some l,some m=>if(Q0 l&&Q0 m&&Pe l m)=true then some (h,.bool true) else none
  |_,_=>none
 |_=>none
def Ww(args:List Aa):IT:= .mem (.S3 Wv) args λr=> .ret .ret [r]
end Go.Am
