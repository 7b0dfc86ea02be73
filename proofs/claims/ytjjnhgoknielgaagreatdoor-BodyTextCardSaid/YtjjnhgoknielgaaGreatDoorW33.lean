/- Lemmas -/
import Derived.Test.YtjjnhgoknielgaaGreatDoorW31
import Derived.Test.YtjjnhgoknielgaaGreatDoorW32
set_option linter.all false
set_option maxRecDepth 100000
section
namespace Go.Am
open Go
section
variable{h h':Ai}{bi lo:Nat}{b c:BS}{F F':Nat->Prop}{m n o a j:Nat}{t:Dr}{av:Ab}
def WL(r:Int):Dr:=⟨5,[],false,[],false,[],false,false,[],false,[],r⟩
def aRq(r:Int)(h:Ai):CD cx 9 [.int .i32 r] h (.agg (CT (WL r) .slnil)) h:=by rw[Ag,aDb,t9];simp only[abS,Nat.reduceLeDiff,↓reduceIte,Cl,WL]
def ZR:BF ([]:List Bj) .slnil:= .nil
def aHW{r:Int}(h: -2147483648<=r/\r<=2147483647):(WL r).Sm:=⟨show([]:Ah).length<=1000 by decide,fD,(Az:([]:Ah).length<=1000),h⟩
def v_{v:Ab}(h:S_ (.sl (.int .i32)) v):∃l:List Int,Bx 1 (l.map λr=>[Ab.int .i32 r]) v/\∀r∈l,-2147483648<=r/\r<=2147483647:=by
 have h:R_ (.sl (.int .i32)) [v]:=h;obtain⟨l,h1,_,h2⟩:=aHo (f:=λr:Int=>[Ab.int .i32 r]) (Q:=λr=> -2147483648<=r/\r<=2147483647) (λr hr=>by obtain⟨n,rfl,w⟩:=aBZ hr;refine⟨n,rfl,?_⟩;have e:IntKind.i32.min= -2147483648:=rfl;have d:IntKind.i32.max=2147483647:=rfl;simp[Lit.wf,e,d] at w;exact w) h
 exact⟨l,h1,h2⟩
end
section
variable{h:Ai}{bi:Nat}{b:BS}{F:Nat->Prop}
end
def aRr(r:Int):NL cx 10 [.int .u8 r] (.bool (decide (Qr r))):=by
 rw[RU,aE0,t10];by_cases h1:r=9;.subst h1;simp[Qr]
 by_cases h2:r=10;.subst h2;simp[Qr]
 by_cases h3:r=12;.subst h3;simp[Qr]
 by_cases b:r=13;.subst b;simp[Qr]
 by_cases a:r=32;.subst a;simp[Qr]
 have:¬Qr r:=by unfold Qr;omega
 simp[h1,h2,h3,b,a,this]
def Ms(l:List Int):Ah:=l.flatMap Ga
def nv(r:Int):(Ga r).length<=4:=by
 unfold Ga;repeat' split
 all_goals simp
def rN:∀l:List Int,(Ms l).length<=4*l.length
 |[]=>by simp[Ms]
 |r::l=>by have:=rN l;have:=nv r;unfold Ms at*;rw[IF,An,AJ];omega
def aRs{l:List Int}{v:Ab}(hv:Bx 1 (l.map λr=>[Ab.int .i32 r]) v)(hs:∀r∈l,MY r)(hl:l.length<=1000)(h:Ai):CD cx 14 [v] h (.str (Ms l)) h:=by
 have d:=Bx.GN hv;have Ŵ:AY=140737488355328:=rfl;rw[Ag,aE2,t14];refine Cv (λs:Ab×Nat=>[s.1,I (s.2:Int)]) (λs h1=>s.2<=l.length/\h1=h/\Bx 1 (CN (Ms (l.take s.2))) s.1) (λs=>l.length-s.2) (.slnil,0) rfl ⟨Bn _,rfl,.inr ⟨rfl,rfl⟩⟩ ?_;rintro⟨u,k⟩ h1 ⟨hk,rfl,i1⟩;simp only at hk i1⊢;by_cases hlt:k<l.length
 .have a:(k:Int)<(l.length:Int):=by omega
  have j:=Bx.DN (k:= .i64) hv hlt;have i:l.take (k+1)=l.take k++[l[k]]:=Bb hlt;have hr:=hs _ (AG hlt);generalize l[k]=r at*;have e:=aK1 r hr h1;have b1:=nv r;have b2:=rN (l.take k);rw[Ax] at b2;obtain⟨c,a1,g⟩:=Bx.Wy (l:=Ms (l.take k)) (l2:=Ga r) (f:=λb:UInt8=>[Ab.int .u8 b.toNat]) (b:=1) i1 .mk Ac;have pi:=DB (Ac:k<9223372036854775807);have a2:AE (.append 1 1) [u,.sl 1 (CN (Ga r))]=some c:=a1;simp only[abS,d,a,j,e.Af,a2,pi];refine By.next (c,k+1) rfl ⟨hlt,rfl,?_⟩ FY;simp only
  rw[i];have:Ms (l.take k++[r])=Ms (l.take k)++Ga r:=by simp[Ms]
  rw[this];exact g
 .have a:¬(k:Int)<(l.length:Int):=by omega
  rw[Bf Ac] at i1;simp only[abS,d,a,i1.UF,i1.XD]
end Go.Am
end
