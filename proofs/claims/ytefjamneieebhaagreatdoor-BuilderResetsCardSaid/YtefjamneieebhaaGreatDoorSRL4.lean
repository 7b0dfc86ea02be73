/- Lemmas -/
import Derived.Test.YtefjamneieebhaaGreatDoorSRL3
import Derived.Test.YtefjamneieebhaaGreatDoorS8
set_option linter.unusedVariables false
set_option linter.unusedSimpArgs false
section
namespace Go.Am
open Go
set_option maxRecDepth 100000
abbrev dh:Ty:= .st [.int .i64,.str,.str]
abbrev uS:Ty:= .st [.int .i64,.str,.sl dh,.int .i64,.int .i64,.bool,.str,.int .i32,.int .i64]
abbrev aM1:Ty:= .st [.int .i64,.str,.sl dh,.bool,.bool]
abbrev L4:Ty:= .st [.bool,aM1]
theorem X4{α:Type}{P:List Aa->Prop}{f:α->List Aa}{Q:α->Prop}(h:∀r,P r->∃a,r=f a/\Q a):∀{Au:List (List Aa)},(∀r∈Au,P r)->∃l:List α,Au=l.map f/\∀a∈l,Q a
 |[],_=>⟨[],rfl,by simp⟩
 |r::Au,hr=>by obtain⟨a,rfl,hq⟩:=h r (hr r (by simp));obtain⟨l,rfl,hl⟩:=X4 h (Au:=Au) λr h=>hr r (by simp[h]);exact⟨a::l,rfl,by simpa[hq] using hl⟩
theorem kI{α:Type}{e:Ty}{f:α->List Aa}{Q:α->Prop}(h:∀r,Yq e r->∃a,r=f a/\Q a){v:Aa}(hv:Yq (.sl e) [v]):∃l:List α,AM (Ty.size e) (l.map f) v/\l.length<=maxLen/\∀a∈l,Q a:=by
 unfold Yq at hv;rcases hv with e1|⟨Au,e1,hl,hr⟩
 .cases e1;exact⟨[],.nil,by simp,by simp⟩
 .cases e1;obtain⟨l,rfl,hq⟩:=X4 h hr;exact⟨l,.mk,by simpa using hl,hq⟩
theorem LM{r:List Aa}{k:IntKind}(h:Yq (.int k) r):∃n,r=[.int k n]/\(Lit.int k n).wf=true:=h
theorem O4{r:List Aa}(h:Yq .str r):∃s:Ap,r=[.str s]:=let⟨n,e,_⟩:=h;⟨n,e⟩
theorem Ru{r:List Aa}(h:Yq .bool r):∃b,r=[.bool b]:=h
theorem DH{t:Ty}{ts:List Ty}{l:List Aa}(h:rG (t::ts) l):∃a b,l=a++b/\Yq t a/\rG ts b:=h
theorem Rv{l:List Aa}(h:rG [] l):l=[]:=h
theorem X5{e:Ty}{r:List Aa}(h:Yq (.sl e) r):∃v,r=[v]/\Yq (.sl e) [v]:=by have h':=h;unfold Yq at h';rcases h' with rfl|⟨Au,rfl,_⟩<;>exact⟨_,rfl,h⟩
theorem dZ(r:List Aa)(h:Yq dh r):∃a:AU,r=a.row/\True:=by obtain⟨x1,y1,rfl,h1,h⟩:=DH h;obtain⟨x2,y2,rfl,h2,h⟩:=DH h;obtain⟨x3,y3,rfl,h3,h⟩:=DH h;obtain rfl:=Rv h;obtain⟨n,rfl,_⟩:=LM h1;obtain⟨s,rfl⟩:=O4 h2;obtain⟨t,rfl⟩:=O4 h3;exact⟨⟨n,s,t⟩,rfl,trivial⟩
theorem aCE(r:List Aa)(h:Yq uS r):∃a:QO,r=a.row/\(-2147483648<=a.q.r/\a.q.r<=2147483647):=by obtain⟨x1,y1,rfl,h1,h⟩:=DH h;obtain⟨x2,y2,rfl,h2,h⟩:=DH h;obtain⟨x3,y3,rfl,h3,h⟩:=DH h;obtain⟨x4,y4,rfl,h4,h⟩:=DH h;obtain⟨x5,y5,rfl,h5,h⟩:=DH h;obtain⟨x6,y6,rfl,h6,h⟩:=DH h;obtain⟨x7,y7,rfl,h7,h⟩:=DH h;obtain⟨x8,y8,rfl,h8,h⟩:=DH h;obtain⟨x9,y9,rfl,h9,h⟩:=DH h;obtain rfl:=Rv h;obtain⟨n1,rfl,_⟩:=LM h1;obtain⟨s2,rfl⟩:=O4 h2;obtain⟨v,rfl,h3⟩:=X5 h3;obtain⟨l,h3,_,_⟩:=kI dZ h3;obtain⟨n4,rfl,_⟩:=LM h4;obtain⟨n5,rfl,_⟩:=LM h5;obtain⟨b6,rfl⟩:=Ru h6;obtain⟨s7,rfl⟩:=O4 h7;obtain⟨n8,rfl,w8⟩:=LM h8;obtain⟨n9,rfl,_⟩:=LM h9;refine⟨⟨⟨n1,s2,l,n4,n5,b6,s7,n8,n9⟩,v,h3⟩,rfl,?_⟩;have m1:IntKind.i32.min= -2147483648:=rfl;have m2:IntKind.i32.max=2147483647:=rfl;simp[Lit.wf,m1,m2] at w8;exact w8
theorem Ql{v:Aa}(h:rH L4 v):∃(s:Ek) (av:Aa),v= .agg (Lj s av)/\Bw s.Ax av:=by obtain⟨r,rfl,h⟩:=h;obtain⟨x1,y1,rfl,h1,h⟩:=DH h;obtain⟨x2,y2,rfl,h2,h⟩:=DH h;obtain rfl:=Rv h;obtain⟨b1,rfl⟩:=Ru h1;obtain⟨x3,y3,rfl,h3,h⟩:=DH h2;obtain⟨x4,y4,rfl,h4,h⟩:=DH h;obtain⟨x5,y5,rfl,h5,h⟩:=DH h;obtain⟨x6,y6,rfl,h6,h⟩:=DH h;obtain⟨x7,y7,rfl,h7,h⟩:=DH h;obtain rfl:=Rv h;obtain⟨n3,rfl,_⟩:=LM h3;obtain⟨s4,rfl⟩:=O4 h4;obtain⟨v,rfl,h5⟩:=X5 h5;obtain⟨l,h5,_,_⟩:=kI dZ h5;obtain⟨b6,rfl⟩:=Ru h6;obtain⟨b7,rfl⟩:=Ru h7;exact⟨⟨b1,n3,s4,l,b6,b7⟩,v,rfl,h5⟩
theorem Wf{v:Aa}(h:rH (.sl uS) v):∃l:List QO,X2 l v/\∀x∈l,-2147483648<=x.q.r/\x.q.r<=2147483647:=by have h:Yq (.sl uS) [v]:=h;obtain⟨l,h1,_,h2⟩:=kI aCE h;exact⟨l,h1,h2⟩
def Gb(l:List AU):Prop:=l.length<=20/\∀x∈l,x.name.length<=400/\x.value.length<=400
instance(l:List AU):Decidable (Gb l):=by unfold Gb;infer_instance
theorem Gb.qE{l:List AU}(h:Gb l):DA l:=⟨by have:=h.1;omega,λa ha=>by have:=h.2 a ha;omega⟩
section
variable{h:Ad}
theorem f9{v:Aa}{l:List AU}(hv:Bw l v)(h:Ad):BI cx 21 [v] h (.bool (decide (Gb l))) h:=by
 have Du:AM 3 (l.map AU.row) v:=hv;have lm:=AM.Cp hv;rw[Ab,aAa,t21];refine Bb (λn:Nat=>[ff,I (n:Int)]) (λn h1=>n<=l.length/\n<=21/\(∀x∈l.take n,x.name.length<=400/\x.value.length<=400)/\h1=h) (λn=>l.length-n) 0 rfl ⟨AR _,AR _,by simp,rfl⟩ ?_;rintro n h1 ⟨hn,hb,ha,rfl⟩;rcases AT n l.length with hlt|D1
 .have e1:=AM.Bz (k:= .i64) hv hlt;rw[AU.row] at e1;have Wj:¬(l[n].name.length<=400/\l[n].value.length<=400)->¬Gb l:=λh1 h2=>h1 (h2.2 _ (AI hlt));by_cases MJ:n<=20
  .by_cases c1:(400:Int)<(l[n].name.length:Int);·have e:decide (Gb l)=false:=AA (Wj (by omega));rw[e];simp only[AB,Bi,lm,show(n:Int)<(l.length:Int) by omega,show(n:Int)<=20 by omega,e1,c1]
   .by_cases c2:(400:Int)<(l[n].value.length:Int);·have e:decide (Gb l)=false:=AA (Wj (by omega));rw[e];simp only[AB,Bi,lm,show(n:Int)<(l.length:Int) by omega,show(n:Int)<=20 by omega,e1,c1,c2]
    .simp only[AB,Bi,lm,show(n:Int)<(l.length:Int) by omega,show(n:Int)<=20 by omega,e1,c1,c2,BF (show n<9223372036854775807 by omega)];refine AF.next (n+1) rfl ⟨hlt,by omega,λx hx=>?_,rfl⟩ (by omega);rw[Av hlt,Ao,Fi] at hx;rcases hx with hx|rfl
     .exact ha x hx
     .exact⟨by omega,by omega⟩
  .have e:decide (Gb l)=false:=AA λh=>by have:=h.1;omega
   rw[e];simp only[AB,Bi,lm,show(n:Int)<(l.length:Int) by omega,show¬(n:Int)<=20 by omega,show¬(l.length:Int)<=20 by omega,Fg]
 .rw[Ay D1] at ha;have e2:decide (Gb l)=decide ((l.length:Int)<=20):=by rw[D0];exact⟨λh=>by have:=h.1;omega,λh=>⟨by omega,ha⟩⟩
  rw[e2];simp only[AB,Bi,lm,show¬(n:Int)<(l.length:Int) by omega]
def Tf(s:Ek):Prop:=s.name.length<=60/\Gb s.Ax
instance(s:Ek):Decidable (Tf s):=by unfold Tf;infer_instance
theorem f5(s:Ek){av:Aa}(hv:Bw s.Ax av)(h:Ad):BI cx 7 [.agg [I s.AZ,.str s.name,av,.bool s.Cq,.bool s.L0]] h (.bool (decide (Tf s))) h:=by
 have r1:=f9 hv h;have Xd:av.cells=[av]:=AM.cells hv;rw[Ab,aEE,t7];by_cases c1:(s.name.length:Int)<=60
 .have e:decide (Tf s)=decide (Gb s.Ax):=by rw[D0];exact⟨λh=>h.2,λh=>⟨by omega,h⟩⟩
  rw[e];simp only[AB,Bi,c1,r1.call]
 .have e:decide (Tf s)=false:=AA λh=>by have:=h.1;omega
  rw[e];simp only[AB,Bi,c1]
def kJ(q:ZP):Prop:=q.name.length<=60/\q.s.length<=200/\Gb q.Ax
instance(q:ZP):Decidable (kJ q):=by unfold kJ;infer_instance
theorem kJ.ok{q:ZP}(h:kJ q)(hr: -2147483648<=q.r/\q.r<=2147483647):uO q:=⟨by have:=h.1;omega,h.2.2.qE,by have:=h.2.1;omega,hr⟩
def Lp(l:List QO)(m:Nat):Prop:=l.length<=m/\∀x∈l,kJ x.q
instance(l:List QO)(m:Nat):Decidable (Lp l m):=by unfold Lp;infer_instance
theorem f4{v:Aa}{l:List QO}(hv:X2 l v){m:Nat}(hm:m<=1000)(h:Ad):BI cx 10 [v,I (m:Int)] h (.bool (decide (Lp l m))) h:=by
 have lm:=AM.Cp hv;rw[Ab,T_,t10];refine Bb (λn:Nat=>[ff,I (n:Int)]) (λn h1=>n<=l.length/\n<=m+1/\(∀x∈l.take n,kJ x.q)/\h1=h) (λn=>l.length-n) 0 rfl ⟨AR _,AR _,by simp,rfl⟩ ?_;rintro n h1 ⟨hn,hb,ha,rfl⟩;rcases AT n l.length with hlt|D1
 .have e1:=AM.Bz (k:= .i64) hv hlt;have r9:=f9 l[n].ok h1;have Wj:¬kJ l[n].q->¬Lp l m:=λh1 h2=>h1 (h2.2 _ (AI hlt));rw[QO.row,Kx] at e1;by_cases MJ:n<=m
  .by_cases c1:(60:Int)<(l[n].q.name.length:Int);·have e:decide (Lp l m)=false:=AA (Wj λh=>by have:=h.1;omega);rw[e];simp only[AB,Bi,lm,show(n:Int)<(l.length:Int) by omega,show(n:Int)<=(m:Int) by omega,e1,c1]
   .by_cases c2:(200:Int)<(l[n].q.s.length:Int);·have e:decide (Lp l m)=false:=AA (Wj λh=>by have:=h.2.1;omega);rw[e];simp only[AB,Bi,lm,show(n:Int)<(l.length:Int) by omega,show(n:Int)<=(m:Int) by omega,e1,c1,c2]
    .by_cases c3:Gb l[n].q.Ax
     .rw[Az c3] at r9;simp only[AB,Bi,lm,show(n:Int)<(l.length:Int) by omega,show(n:Int)<=(m:Int) by omega,e1,c1,c2,r9.call,BF (show n<9223372036854775807 by omega)];refine AF.next (n+1) rfl ⟨hlt,by omega,λx hx=>?_,rfl⟩ (by omega);rw[Av hlt,Ao,Fi] at hx;rcases hx with hx|rfl
      .exact ha x hx
      .exact⟨by omega,by omega,c3⟩
     .have e:decide (Lp l m)=false:=AA (Wj λh=>c3 h.2.2);rw[AA c3] at r9;rw[e];simp only[AB,Bi,lm,show(n:Int)<(l.length:Int) by omega,show(n:Int)<=(m:Int) by omega,e1,c1,c2,r9.call]
  .have e:decide (Lp l m)=false:=AA λh=>by have:=h.1;omega
   rw[e];simp only[AB,Bi,lm,show(n:Int)<(l.length:Int) by omega,show¬(n:Int)<=(m:Int) by omega,show¬(l.length:Int)<=(m:Int) by omega,Fg]
 .rw[Ay D1] at ha;have e2:decide (Lp l m)=decide ((l.length:Int)<=(m:Int)):=by rw[D0];exact⟨λh=>by have:=h.1;omega,λh=>⟨by omega,ha⟩⟩
  rw[e2];simp only[AB,Bi,lm,show¬(n:Int)<(l.length:Int) by omega]
end
theorem Hh{Q:Post}{h:Ad}{k:Aa->IT}:W cx (.Bc 8 [] k) Q h↔W cx (k (.bool true)) Q h:=JG.Bc tT rfl rfl
end Go.Am
end
