/- Lemmas -/
import Derived.Test.YtmfdhadocnndiaaGreatDoorS26
set_option linter.all false
namespace Go.Am
open Go
set_option maxRecDepth 100000
section
variable{A:Ar}{e:Int}{Af:List (List Aa)}{r:Int->Nat}
def pY(A:Ar)(r:Int->Nat)(x:Int):Nat:=((List.range A.n.length).filter λi:Nat=>decide (r ((i:Int)+1)<r x)).length
def f_{x:Int}:pY A r x<=A.n.length:=by unfold pY;exact Bj (R_ _ _) Av
def gd{x y:Int}(hy:A.has y)(h:r y<r x):pY A r y<pY A r x:=by
 unfold pY;have a:(List.range A.n.length).filter (λi:Nat=>decide (r ((i:Int)+1)<r y))=((List.range A.n.length).filter λi:Nat=>decide (r ((i:Int)+1)<r x)).filter λi:Nat=>decide (r ((i:Int)+1)<r y):=by
  rw[List.filter_filter];congr 1
  funext i;by_cases h1:r ((i:Int)+1)<r y;.simp[h1,yw h1 h]
  .simp[h1]
 rw[a,List.length_filter_lt_length_iff_exists];obtain⟨i,hi⟩:∃i:Nat,y=(i:Int)+1:=⟨y.toNat-1,by have:=hy.1;omega⟩;subst hi;refine⟨i,CU.2 ⟨KH.2 (by have:=hy.2;omega),AW h⟩,?_⟩;simp
def aF(hr:∀h,A.has h->A.up h≠0->r (A.up h)<r h)(ok:DS A e)(aM:∀x,A.has x->WX Af x=some (A.up x)):∀{f:Nat} {x:Int},A.has x->pY A r x<f->Hb Af f x=true
 |0,x,_,h=>Ab
 |f+1,x,hx,hl=>by
  rw[Hb]
  .rw[aM x hx];show Hb Af f (A.up x)=true;by_cases h0:A.up x=0;.rw[h0];unfold Hb;cases f<;>rfl
   .have h1:=TZ ok hx h0;exact aF hr ok aM h1 (by have:=gd h1 (hr x hx h0);omega)
  .intro e;have:=hx.1;omega
def fX{h:Ah}(ok:DS A e)(hl:Af.length=A.n.length)(hb:A.n.length<=900000000)(aM:∀x,A.has x->WX Af x=some (A.up x)):NS h [.sl 13 Af]=some (h,.bool true):=by
 obtain⟨r,hr⟩:=ok.U4;have h1:(decide (Af.length<=1000000000)&&(List.range Af.length).all λi=>Hb Af (Af.length+1) ((i:Int)+1))=true:=by
  rw[Bf,Dq];refine⟨AW Ab,λi hi=>?_⟩;have hi:=KH.1 hi;have hx:A.has ((i:Int)+1):=by unfold Ar.has;omega
  exact aF hr ok aM hx (by have:=f_ (A:=A) (r:=r) (x:=(i:Int)+1);omega)
 simp only[NS,h1,↓reduceIte]
end
end Go.Am
