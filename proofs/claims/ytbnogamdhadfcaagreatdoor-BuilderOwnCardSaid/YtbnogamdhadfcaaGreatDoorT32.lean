/- Lemmas -/
import Derived.Test.YtbnogamdhadfcaaGreatDoorT31
import Derived.Test.YtbnogamdhadfcaaGreatDoorT8
set_option linter.unusedVariables false
set_option linter.unusedSimpArgs false
section
namespace Go.Am
open Go
set_option maxRecDepth 100000
abbrev cw:Ty:= .st [.int .i64,.str,.str]
abbrev tOp:Ty:= .st [.int .i64,.str,.sl cw,.int .i64,.int .i64,.bool,.str,.int .i32,.int .i64]
abbrev aMQ:Ty:= .st [.int .i64,.str,.sl cw,.bool,.bool]
abbrev Zy:Ty:= .st [.bool,aMQ]
theorem XZ{α:Type}{P:List Aa->Prop}{f:α->List Aa}{Q:α->Prop}(h:∀r,P r->∃a,r=f a/\Q a):∀{Au:List (List Aa)},(∀r∈Au,P r)->∃l:List α,Au=l.map f/\∀a∈l,Q a
 |[],_=>⟨[],rfl,by simp⟩
 |r::Au,hr=>by obtain⟨a,rfl,hq⟩:=h r (hr r (by simp));obtain⟨l,rfl,hl⟩:=XZ h (Au:=Au) λr h=>hr r (by simp[h]);exact⟨a::l,rfl,by simpa[hq] using hl⟩
theorem jX{α:Type}{e:Ty}{f:α->List Aa}{Q:α->Prop}(h:∀r,Ym e r->∃a,r=f a/\Q a){v:Aa}(hv:Ym (.sl e) [v]):∃l:List α,AM (Ty.size e) (l.map f) v/\l.length<=maxLen/\∀a∈l,Q a:=by
 unfold Ym at hv;rcases hv with e1|⟨Au,e1,hl,hr⟩
 .cases e1;exact⟨[],.nil,by simp,by simp⟩
 .cases e1;obtain⟨l,rfl,hq⟩:=XZ h hr;exact⟨l,.mk,by simpa using hl,hq⟩
theorem Ni{r:List Aa}{k:IntKind}(h:Ym (.int k) r):∃n,r=[.int k n]/\(Lit.int k n).wf=true:=h
theorem Ro{r:List Aa}(h:Ym .str r):∃s:As,r=[.str s]:=let⟨n,e,_⟩:=h;⟨n,e⟩
theorem Rp{r:List Aa}(h:Ym .bool r):∃b,r=[.bool b]:=h
theorem DI{t:Ty}{ts:List Ty}{l:List Aa}(h:q8 (t::ts) l):∃a b,l=a++b/\Ym t a/\q8 ts b:=h
theorem Rq{l:List Aa}(h:q8 [] l):l=[]:=h
theorem X0{e:Ty}{r:List Aa}(h:Ym (.sl e) r):∃v,r=[v]/\Ym (.sl e) [v]:=by have h':=h;unfold Ym at h';rcases h' with rfl|⟨Au,rfl,_⟩<;>exact⟨_,rfl,h⟩
theorem dO(r:List Aa)(h:Ym cw r):∃a:AU,r=a.row/\True:=by obtain⟨x1,y1,rfl,h1,h⟩:=DI h;obtain⟨x2,y2,rfl,h2,h⟩:=DI h;obtain⟨x3,y3,rfl,h3,h⟩:=DI h;obtain rfl:=Rq h;obtain⟨n,rfl,_⟩:=Ni h1;obtain⟨s,rfl⟩:=Ro h2;obtain⟨t,rfl⟩:=Ro h3;exact⟨⟨n,s,t⟩,rfl,trivial⟩
theorem aCr(r:List Aa)(h:Ym tOp r):∃a:QO,r=a.row/\(-2147483648<=a.q.r/\a.q.r<=2147483647):=by obtain⟨x1,y1,rfl,h1,h⟩:=DI h;obtain⟨x2,y2,rfl,h2,h⟩:=DI h;obtain⟨x3,y3,rfl,h3,h⟩:=DI h;obtain⟨x4,y4,rfl,h4,h⟩:=DI h;obtain⟨x5,y5,rfl,h5,h⟩:=DI h;obtain⟨x6,y6,rfl,h6,h⟩:=DI h;obtain⟨x7,y7,rfl,h7,h⟩:=DI h;obtain⟨x8,y8,rfl,h8,h⟩:=DI h;obtain⟨x9,y9,rfl,h9,h⟩:=DI h;obtain rfl:=Rq h;obtain⟨n1,rfl,_⟩:=Ni h1;obtain⟨s2,rfl⟩:=Ro h2;obtain⟨v,rfl,h3⟩:=X0 h3;obtain⟨l,h3,_,_⟩:=jX dO h3;obtain⟨n4,rfl,_⟩:=Ni h4;obtain⟨n5,rfl,_⟩:=Ni h5;obtain⟨b6,rfl⟩:=Rp h6;obtain⟨s7,rfl⟩:=Ro h7;obtain⟨n8,rfl,w8⟩:=Ni h8;obtain⟨n9,rfl,_⟩:=Ni h9;refine⟨⟨⟨n1,s2,l,n4,n5,b6,s7,n8,n9⟩,v,h3⟩,rfl,?_⟩;have m1:IntKind.i32.min= -2147483648:=rfl;have m2:IntKind.i32.max=2147483647:=rfl;simp[Lit.wf,m1,m2] at w8;exact w8
theorem jY{v:Aa}(h:q9 Zy v):∃(s:EK) (av:Aa),v= .agg (Ou s av)/\Bz s.Ay av:=by obtain⟨r,rfl,h⟩:=h;obtain⟨x1,y1,rfl,h1,h⟩:=DI h;obtain⟨x2,y2,rfl,h2,h⟩:=DI h;obtain rfl:=Rq h;obtain⟨b1,rfl⟩:=Rp h1;obtain⟨x3,y3,rfl,h3,h⟩:=DI h2;obtain⟨x4,y4,rfl,h4,h⟩:=DI h;obtain⟨x5,y5,rfl,h5,h⟩:=DI h;obtain⟨x6,y6,rfl,h6,h⟩:=DI h;obtain⟨x7,y7,rfl,h7,h⟩:=DI h;obtain rfl:=Rq h;obtain⟨n3,rfl,_⟩:=Ni h3;obtain⟨s4,rfl⟩:=Ro h4;obtain⟨v,rfl,h5⟩:=X0 h5;obtain⟨l,h5,_,_⟩:=jX dO h5;obtain⟨b6,rfl⟩:=Rp h6;obtain⟨b7,rfl⟩:=Rp h7;exact⟨⟨b1,n3,s4,l,b6,b7⟩,v,rfl,h5⟩
theorem cy{v:Aa}(h:q9 (.sl tOp) v):∃l:List QO,pP l v/\∀x∈l,-2147483648<=x.q.r/\x.q.r<=2147483647:=by have h:Ym (.sl tOp) [v]:=h;obtain⟨l,h1,_,h2⟩:=jX aCr h;exact⟨l,h1,h2⟩
def Ge(l:List AU):Prop:=l.length<=20/\∀x∈l,x.name.length<=400/\x.value.length<=400
instance(l:List AU):Decidable (Ge l):=by unfold Ge;infer_instance
theorem Ge.xq{l:List AU}(h:Ge l):DH l:=⟨by have:=h.1;omega,λa ha=>by have:=h.2 a ha;omega⟩
section
variable{h:Ag}
theorem f9{v:Aa}{l:List AU}(hv:Bz l v)(h:Ag):BI cx 28 [v] h (.bool (decide (Ge l))) h:=by
 have Du:AM 3 (l.map AU.row) v:=hv;have lm:=AM.Cp hv;rw[Ab,aAd,t28];refine Bd (λn:Nat=>[ff,I (n:Int)]) (λn h1=>n<=l.length/\n<=21/\(∀x∈l.take n,x.name.length<=400/\x.value.length<=400)/\h1=h) (λn=>l.length-n) 0 rfl ⟨AO _,AO _,by simp,rfl⟩ ?_;rintro n h1 ⟨hn,hb,ha,rfl⟩;rcases AN n l.length with hlt|DT
 .have e1:=AM.BA (k:= .i64) hv hlt;rw[AU.row] at e1;have Wh:¬(l[n].name.length<=400/\l[n].value.length<=400)->¬Ge l:=λh1 h2=>h1 (h2.2 _ (AI hlt));by_cases MF:n<=20
  .by_cases c1:(400:Int)<(l[n].name.length:Int);·have e:decide (Ge l)=false:=AB (Wh (by omega));rw[e];simp only[AA,Bi,lm,show(n:Int)<(l.length:Int) by omega,show(n:Int)<=20 by omega,e1,c1]
   .by_cases c2:(400:Int)<(l[n].value.length:Int);·have e:decide (Ge l)=false:=AB (Wh (by omega));rw[e];simp only[AA,Bi,lm,show(n:Int)<(l.length:Int) by omega,show(n:Int)<=20 by omega,e1,c1,c2]
    .simp only[AA,Bi,lm,show(n:Int)<(l.length:Int) by omega,show(n:Int)<=20 by omega,e1,c1,c2,BB (show n<9223372036854775807 by omega)];refine AF.next (n+1) rfl ⟨hlt,by omega,λx hx=>?_,rfl⟩ (by omega);rw[Av hlt,Ap,Fk] at hx;rcases hx with hx|rfl
     .exact ha x hx
     .exact⟨by omega,by omega⟩
  .have e:decide (Ge l)=false:=AB λh=>by have:=h.1;omega
   rw[e];simp only[AA,Bi,lm,show(n:Int)<(l.length:Int) by omega,show¬(n:Int)<=20 by omega,show¬(l.length:Int)<=20 by omega,Fi]
 .rw[Az DT] at ha;have e2:decide (Ge l)=decide ((l.length:Int)<=20):=by rw[D4];exact⟨λh=>by have:=h.1;omega,λh=>⟨by omega,ha⟩⟩
  rw[e2];simp only[AA,Bi,lm,show¬(n:Int)<(l.length:Int) by omega]
def X1(s:EK):Prop:=s.name.length<=60/\Ge s.Ay
instance(s:EK):Decidable (X1 s):=by unfold X1;infer_instance
theorem f5(s:EK){av:Aa}(hv:Bz s.Ay av)(h:Ag):BI cx 6 [.agg [I s.A0,.str s.name,av,.bool s.Cr,.bool s.Mr]] h (.bool (decide (X1 s))) h:=by
 have r1:=f9 hv h;have ZD:av.cells=[av]:=AM.cells hv;rw[Ab,aEy,t6];by_cases c1:(s.name.length:Int)<=60
 .have e:decide (X1 s)=decide (Ge s.Ay):=by rw[D4];exact⟨λh=>h.2,λh=>⟨by omega,h⟩⟩
  rw[e];simp only[AA,Bi,c1,r1.call]
 .have e:decide (X1 s)=false:=AB λh=>by have:=h.1;omega
  rw[e];simp only[AA,Bi,c1]
def jZ(q:dG):Prop:=q.name.length<=60/\q.s.length<=200/\Ge q.Ay
instance(q:dG):Decidable (jZ q):=by unfold jZ;infer_instance
theorem jZ.ok{q:dG}(h:jZ q)(hr: -2147483648<=q.r/\q.r<=2147483647):bn q:=⟨by have:=h.1;omega,h.2.2.xq,by have:=h.2.1;omega,hr⟩
def Oy(l:List QO)(m:Nat):Prop:=l.length<=m/\∀x∈l,jZ x.q
instance(l:List QO)(m:Nat):Decidable (Oy l m):=by unfold Oy;infer_instance
theorem f4{v:Aa}{l:List QO}(hv:pP l v){m:Nat}(hm:m<=1000)(h:Ag):BI cx 20 [v,I (m:Int)] h (.bool (decide (Oy l m))) h:=by
 have lm:=AM.Cp hv;rw[Ab,aAa,t20];refine Bd (λn:Nat=>[ff,I (n:Int)]) (λn h1=>n<=l.length/\n<=m+1/\(∀x∈l.take n,jZ x.q)/\h1=h) (λn=>l.length-n) 0 rfl ⟨AO _,AO _,by simp,rfl⟩ ?_;rintro n h1 ⟨hn,hb,ha,rfl⟩;rcases AN n l.length with hlt|DT
 .have e1:=AM.BA (k:= .i64) hv hlt;have r9:=f9 l[n].ok h1;have Wh:¬jZ l[n].q->¬Oy l m:=λh1 h2=>h1 (h2.2 _ (AI hlt));rw[QO.row,KA] at e1;by_cases MF:n<=m
  .by_cases c1:(60:Int)<(l[n].q.name.length:Int);·have e:decide (Oy l m)=false:=AB (Wh λh=>by have:=h.1;omega);rw[e];simp only[AA,Bi,lm,show(n:Int)<(l.length:Int) by omega,show(n:Int)<=(m:Int) by omega,e1,c1]
   .by_cases c2:(200:Int)<(l[n].q.s.length:Int);·have e:decide (Oy l m)=false:=AB (Wh λh=>by have:=h.2.1;omega);rw[e];simp only[AA,Bi,lm,show(n:Int)<(l.length:Int) by omega,show(n:Int)<=(m:Int) by omega,e1,c1,c2]
    .by_cases c3:Ge l[n].q.Ay
     .rw[AD c3] at r9;simp only[AA,Bi,lm,show(n:Int)<(l.length:Int) by omega,show(n:Int)<=(m:Int) by omega,e1,c1,c2,r9.call,BB (show n<9223372036854775807 by omega)];refine AF.next (n+1) rfl ⟨hlt,by omega,λx hx=>?_,rfl⟩ (by omega);rw[Av hlt,Ap,Fk] at hx;rcases hx with hx|rfl
      .exact ha x hx
      .exact⟨by omega,by omega,c3⟩
     .have e:decide (Oy l m)=false:=AB (Wh λh=>c3 h.2.2);rw[AB c3] at r9;rw[e];simp only[AA,Bi,lm,show(n:Int)<(l.length:Int) by omega,show(n:Int)<=(m:Int) by omega,e1,c1,c2,r9.call]
  .have e:decide (Oy l m)=false:=AB λh=>by have:=h.1;omega
   rw[e];simp only[AA,Bi,lm,show(n:Int)<(l.length:Int) by omega,show¬(n:Int)<=(m:Int) by omega,show¬(l.length:Int)<=(m:Int) by omega,Fi]
 .rw[Az DT] at ha;have e2:decide (Oy l m)=decide ((l.length:Int)<=(m:Int)):=by rw[D4];exact⟨λh=>by have:=h.1;omega,λh=>⟨by omega,ha⟩⟩
  rw[e2];simp only[AA,Bi,lm,show¬(n:Int)<(l.length:Int) by omega]
end
theorem Ss{Q:Post}{h:Ag}{k:Aa->IT}:W cx (.Bk 7 [] k) Q h↔W cx (k (.bool true)) Q h:=JI.Bk tL rfl rfl
section
variable{h h':Ag}{bi wi a:Nat}{b:BS}{F F2 G:Nat->Prop}{o c t:Aa}{j m:Nat}
end
def Sub(p:Nat)(h h':Ag):Prop:=∀i x,p<=i->h[i]?=some x->h'[i]?=some x
def Jl(h:Ag)(p q n:Nat)(v:Aa):Prop:=v.cells=[v]/\Aw (.len false) [v]=some (I (n:Int))/\n<=1000000000/\(0<n->∃id cs,v= .Ck id 0 n 1/\p<=id/\id<q/\h[id]?=some (.cells cs)/\n<=cs.length)
def JP(h:Ag)(p L n:Nat)(v:Aa):Prop:=Aw (.len false) [v]=some (I (n:Int))/\n<=1000000000/\(0<n->∃id cs,v= .Ck id 0 n 3/\p<=id/\h[id]?=some (.cells cs)/\n*3<=cs.length/\∀j,j<n->∃s,cs[j*3+2]?=some (.str s)/\s.length<=L)
def GI(h:Ag)(p L:Nat)(us:List (Aa×Nat)):Prop:=us.length<=1000000000/\∃cs,h[p]?=some (.cells cs)/\us.length*3<=cs.length/\∀k (hk:k<us.length),cs[k*3+2]?=some us[k].1/\JP h (p+1) L us[k].2 us[k].1
section
variable{h h':Ag}{p q n L:Nat}{v:Aa}
theorem Sub.set{id:Nat}{x:C6}(Ha:id<p):Sub p h (h.set id x):=λi y hi hy=>by rw[Af (by omega)];exact hy
theorem Jl.Cv(hv:Jl h p q n v)(hf:∀i x,p<=i->i<q->h[i]?=some x->h'[i]?=some x):Jl h' p q n v:=by refine⟨hv.1,hv.2.1,hv.2.2.1,λh0=>?_⟩;obtain⟨id,cs,e,h1,h2,h3,h4⟩:=hv.2.2.2 h0;exact⟨id,cs,e,h1,h2,hf _ _ h1 h2 h3,h4⟩
theorem JP.Cv(hv:JP h p L n v)(hf:Sub p h h'):JP h' p L n v:=by refine⟨hv.1,hv.2.1,λh0=>?_⟩;obtain⟨id,cs,e,h1,h2,h3⟩:=hv.2.2 h0;exact⟨id,cs,e,h1,hf _ _ h1 h2,h3⟩
theorem GI.Cv{us:List (Aa×Nat)}(hv:GI h p L us)(hf:Sub p h h'):GI h' p L us:=by obtain⟨h0,cs,h1,h2,h3⟩:=hv;exact⟨h0,cs,hf _ _ (Ac _) h1,h2,λk hk=>⟨(h3 k hk).1,(h3 k hk).2.Cv λi x hi hx=>hf i x (by omega) hx⟩⟩
theorem Jl.step(hv:Jl h p q n v){k:Nat}(hk:k<n)(x:Aa)(hx:x.cells=[x]):∃a h',Aw (.EE 1) [v,I (k:Int)]=some a/\Cd h 1 a x=some h'/\Jl h' p q n v/\∀i,¬(p<=i/\i<q)->h'[i]?=h[i]?:=by obtain⟨h0,h1,h2,h3⟩:=hv;obtain⟨id,cs,rfl,e1,e2,e3,e4⟩:=h3 (by omega);have ea:=DO (id:=id) (z:=1) (k:= .i64) hk;rw[I8] at ea;have hl:=(Ae.1 e3).1;refine⟨_,h.set id (.cells (cs.take k++[x]++cs.drop (k+1))),ea,?_,⟨h0,h1,h2,λ_=>⟨id,_,rfl,e1,e2,AG hl,by simp;omega⟩⟩,λi hi=>Af λe=>hi (by omega)⟩;simp only[Cd,e3,hx,Bc];rw[if_pos ⟨trivial,by omega⟩]
theorem JP.step(hv:JP h p L n v){j:Nat}(hj:j<n):∃id s h',Aw (.EE 3) [v,I (j:Int)]=some (Pt id (j*3))/\A9 h none (Pt id (j*3+2))=some (.str s)/\s.length<=L/\p<=id/\Cd h 1 (Pt id (j*3+2)) (.str (s++[120]))=some h'/\(∀i,i≠id->h'[i]?=h[i]?)/\∀n' u,JP h p L n' u->JP h' p (L+1) n' u:=by
 obtain⟨id,cs,rfl,e1,e2,e3,e4⟩:=hv.2.2 (by omega);obtain⟨s,s1,s2⟩:=e4 j hj;have hl:=(Ae.1 e2).1;refine⟨id,s,h.set id (.cells (cs.set (j*3+2) (.str (s++[120])))),DO hj,by simp only[A9,e2,Dz];exact s1,s2,e1,?_,λi hi=>Af λe=>hi e.symm,λn' u hu=>?_⟩
 .simp only[Cd,e2,Aa.cells,Bc];have hlt:j*3+2<cs.length:=by omega
  rw[if_pos ⟨trivial,by omega⟩,<-J0 hlt,Ax];rfl
 .refine⟨hu.1,hu.2.1,λh0=>?_⟩;obtain⟨E0,FI,rfl,f1,f2,f3,f4⟩:=hu.2.2 h0;by_cases Ha:E0=id
  .subst Ha;rw[e2] at f2;cases f2;refine⟨E0,_,rfl,f1,AG hl,by rw[Be];exact f3,λj' hj'=>?_⟩;obtain⟨s',q1,q2⟩:=f4 j' hj';by_cases hjj:j'=j;·subst hjj;exact⟨_,AG (by omega),by rw[Ao,Bc];omega⟩
   .exact⟨s',by rw[Af (by omega)];exact q1,by omega⟩
  .refine⟨E0,FI,rfl,f1,by rw[Af λe=>Ha e.symm];exact f2,f3,λj' hj'=>?_⟩;obtain⟨s',q1,q2⟩:=f4 j' hj';exact⟨s',q1,by omega⟩
theorem GI.at_{us:List (Aa×Nat)}(hv:GI h p L us){k:Nat}(hk:k<us.length):A9 h none (Pt p (k*3+2))=some us[k].1/\JP h (p+1) L us[k].2 us[k].1:=by obtain⟨h0,cs,h1,h2,h3⟩:=hv;exact⟨by simp only[A9,h1,Dz];exact(h3 k hk).1,(h3 k hk).2⟩
theorem GI.node{us:List (Aa×Nat)}(hv:GI h p L us){k:Nat}(hk:k<us.length):∃h',Cd h 1 (Pt p (k*3)) (I (-5))=some h'/\GI h' p L us/\∀i,i≠p->h'[i]?=h[i]?:=by
 obtain⟨h0,cs,h1,h2,h3⟩:=hv;have hl:=(Ae.1 h1).1;refine⟨h.set p (.cells (cs.set (k*3) (I (-5)))),?_,⟨h0,_,AG hl,by rw[Be];exact h2,λj hj=>⟨by rw[Af (by omega)];exact(h3 j hj).1,(h3 j hj).2.Cv (Sub.set (by omega))⟩⟩,λi hi=>Af λe=>hi e.symm⟩;have hlt:k*3<cs.length:=by omega
 simp only[Cd,h1,Aa.cells,Bc];rw[if_pos ⟨trivial,by omega⟩,<-J0 hlt,Ax];rfl
theorem GI.aMS{us:List (Aa×Nat)}(hv:GI h p L us){k j:Nat}(hk:k<us.length)(hj:j<us[k].2):∃id s h',Aw (.EE 3) [us[k].1,I (j:Int)]=some (Pt id (j*3))/\A9 h none (Pt id (j*3+2))=some (.str s)/\s.length<=L/\Cd h 1 (Pt id (j*3+2)) (.str (s++[120]))=some h'/\GI h' p (L+1) us/\∀i,i<=p->h'[i]?=h[i]?:=by obtain⟨id,s,h',r1,r2,r3,r4,r5,r6,r7⟩:=(hv.at_ hk).2.step hj;obtain⟨h0,cs,h1,h2,h3⟩:=hv;exact⟨id,s,h',r1,r2,r3,r5,⟨h0,cs,by rw[r6 p (by omega)];exact h1,h2,λi hi=>⟨(h3 i hi).1,r7 _ _ (h3 i hi).2⟩⟩,λi hi=>r6 i (by omega)⟩
end
section
variable{h h':Ag}{bi a lo:Nat}{o c t v:Aa}{G:Nat->Prop}{b:BS}{m:Nat}
theorem obj_cl{z b:Nat}{Au:List (List Aa)}(h:Ag)(hb:Au.length*b<=AT):∃u t,IG h z b (.sl z []) (.sl z Au)=some (h++t,u)/\u.cells=[u]/\Aw (.len false) [u]=some (I (Au.length:Int))/\(0<Au.length->u= .Ck h.length 0 Au.length z/\t=[.cells Au.flatten]):=by
 cases Au with
 |nil=>exact⟨.sl z [],[],by simp[IG,NL],rfl,rfl,λh=>absurd h (by simp)⟩
 |cons r Au=>exact⟨_,_,I0 (.inr rfl) .mk (by simp) hb,rfl,rfl,λ_=>⟨rfl,rfl⟩⟩
theorem nil_sl{z:Nat}{r:List (List Aa)}:Aw (.Gp false .sl) [.sl z r,.slnil]=some (.bool false):=rfl
theorem nil_nil:Aw (.Gp false .sl) [.slnil,.slnil]=some (.bool true):=rfl
theorem mk_0{z:Nat}:Aw (.By z) []=some (.sl z []):=by simp[Aw]
theorem cz{l:List Int}(hv:Df l v)(hb:l.length<=1000000000)(h:Ag):∃u t,BI cx 100053 [v] h u (h++t)/\Jl (h++t) h.length (h++t).length l.length u:=by
 have hm:AT=140737488355328:=rfl;rcases(show AM 1 (l.map B6) v from hv) with rfl|⟨rfl,h0⟩
 .obtain⟨u,t,e,c1,c2,c3⟩:=obj_cl (z:=1) (b:=8) (Au:=l.map B6) h (by rw[Ah];omega);rw[Ah] at c2 c3;refine⟨u,t,?_,c1,c2,hb,λh0=>?_⟩;·rw[Ab,VA,Zb];simp only[AA,nil_sl,mk_0,e]
  .obtain⟨rfl,rfl⟩:=c3 h0;exact⟨h.length,(l.map B6).flatten,rfl,Ac _,by simp,by simp,by rw[D0 (z:=1) (Kd (f:=B6) (λ_=>rfl) _),Ah];omega⟩
 .obtain rfl:l=[]:=by simpa using h0
  refine⟨.slnil,[],?_,rfl,rfl,by simp,λh0=>absurd h0 (by simp)⟩;rw[Bv,Ab,VA,Zb];simp only[AA,nil_nil]
theorem c_{l:List AU}(hv:Bz l v)(hs:DH l)(h:Ag):∃u t,BI cx 100054 [v] h u (h++t)/\u.cells=[u]/\JP (h++t) h.length 1000 l.length u:=by
 have hm:AT=140737488355328:=rfl;have hb:=hs.1;rcases(show AM 3 (l.map AU.row) v from hv) with rfl|⟨rfl,h0⟩
 .obtain⟨u,t,e,c1,c2,c3⟩:=obj_cl (z:=3) (b:=40) (Au:=l.map AU.row) h (by rw[Ah];omega);rw[Ah] at c2 c3;refine⟨u,t,?_,c1,c2,by omega,λh0=>?_⟩;·rw[Ab,Lj,OZ];simp only[AA,nil_sl,mk_0,e]
  .obtain⟨rfl,rfl⟩:=c3 h0;refine⟨h.length,(l.map AU.row).flatten,rfl,Ac _,by simp,by rw[D0 (ah _),Ah];omega,λj hj=>⟨l[j].value,?_,(hs.2 _ (AI hj)).2⟩⟩;have hg:(l.map AU.row)[j]?=some l[j].row:=by rw[Cc,Ai hj];rfl
   exact IA (ah _) (k:=2) (by decide) hg
 .obtain rfl:l=[]:=by simpa using h0
  refine⟨.slnil,[],?_,rfl,rfl,by simp,λh0=>absurd h0 (by simp)⟩;rw[Bv,Ab,Lj,OZ];simp only[AA,nil_nil]
def aH8(h:Ag)(lo:Nat)(r:List Aa):Prop:=∃(s:SS) (t o:Aa) (n1 n2 p1 p2:Nat) (us:List (Aa×Nat)),r=Ov s t o (.Ck p2 0 us.length 3)/\lo<=p1/\p1<=p2/\Jl h lo p1 n1 t/\Jl h p1 p2 n2 o/\GI h p2 1000 us
theorem da(w:BX h bi a o c t G b)(hc:BN b.A3 c)(rm:BR b m):∃r u,BI cx 100017 [Pt bi 0] h (.agg r) (h++u)/\aH8 (h++u) h.length r:=by
 have ZJ:AT=140737488355328:=rfl;have ho:=rm.AR;have Q8:=rm.A3;have wv:=rm.tm;obtain⟨t',ut,e0,Fp⟩:=cz w.t (by omega) h;have htc:t'.cells=[t']:=Fp.1;obtain⟨fs,F0,hv⟩:=hc;have Gv:b.A3.length=fs.length:=by rw[<-F0,Ah]
 have lo1:=AM.Cp w.o;have H5:Ev cx 100017 [Pt bi 0] h λr h'=>∃r' u,r= .agg r'/\h'=h++u/\aH8 (h++u) h.length r':=by
  unfold Ev;have wt:=w.HB (u:=ut);rw[iX,oX];simp only[AA,Nat.reduceLeDiff,↓reduceIte,AK,Bi,(Hs w).call,w.ld,wt.ld,HS,e0.call,Bx,htc,lo1];obtain⟨Ht,hHt⟩:∃Ht,Ht=h++ut:=⟨_,rfl⟩;rw[<-hHt] at Fp wt⊢;refine Db (i:=0) (λz:Aa×Nat=>[.agg [I b.mode,I b.R6,t',z.1,.slnil,I b.head,I b.Mr,.bool b.fs,.bool b.Eb,.str b.YP,.bool b.skip,I b.sw,.bool b.stop],I (z.2:Int)]) (λz h1=>z.2<=b.AR.length/\∃u,h1=Ht++u/\KE (Ht++u) Ht.length z.1 ((b.AR.take z.2).map Item.node)) (λz=>b.AR.length-z.2) (λz h1=>∃u,h1=Ht++u/\KE (Ht++u) Ht.length z.1 (b.AR.map Item.node)) (.slnil,0) rfl ⟨AO _,[],by simp,.inl ⟨rfl,by simp⟩⟩ ?_ ?_
  .rintro⟨V,n⟩ h1 ⟨hn,u,rfl,hV⟩;simp only at hn hV;have hVc:=hV.cells;rcases AN n b.AR.length with hlt|DT
   .have e1:=AM.BA (k:= .i64) w.o hlt;rw[Item.row] at e1;obtain⟨u',V',g1,hV'⟩:=bu hV (by rw[Ah,Al];omega) b.AR[n].node;have hV'c:=hV'.cells;have em:Aw (.By 1) [I b.AR[n].node]=some (.sl 1 [[I b.AR[n].node]]):=rfl;simp only[AA,Nat.reduceLeDiff,↓reduceIte,Bi,show(n:Int)<(b.AR.length:Int) by omega,e1,em,g1,hV'c,BB (show n<9223372036854775807 by omega)];exact .next (V',n+1) rfl ⟨hlt,u',rfl,by rw[Av hlt,BE];exact hV'⟩ (by simp only;omega)
   .rw[Az DT] at hV;simp only[AA,↓reduceIte,Bi,show¬(n:Int)<(b.AR.length:Int) by omega];exact .GM (V,n) rfl ⟨u,rfl,hV⟩
  .rintro⟨O,n0⟩ h1 ⟨u,rfl,hO⟩;simp only at hO;have hOc:=hO.cells;have w1:=wt.HB (u:=u);have l31:=w1.l3;have lc:=AM.Cp hv;have hOs:Jl (Ht++u) Ht.length (Ht++u).length (b.AR.map Item.node).length O:=by
    refine⟨hOc,hO.Rc.len,by rw[Ah];omega,λhpos=>?_⟩;rcases hO with⟨rfl,h0⟩|⟨id,h1,rfl,h2⟩
    .rw[h0] at hpos;simp at hpos
    .exact⟨id,_,rfl,h1,(Ae.1 h2).1,h2,by simp⟩
   simp only[AA,↓reduceIte,Bi,l31,lc];refine uP (V6 (h:=Ht++u) (n:=fs.length) (by omega)) ?_;obtain⟨H0,hH0⟩:∃H0,H0=Ht++u:=⟨_,rfl⟩;rw[<-hH0] at hOs⊢;have c0:(H0++[C6.cells (List.replicate fs.length [I 0,S [],.slnil]).flatten])[H0.length]?=some (.cells (List.replicate fs.length [I 0,S [],.slnil]).flatten):=by simp
   have l32:A9 (H0++[C6.cells (List.replicate fs.length [I 0,S [],.slnil]).flatten]) none (Pt bi 3)=some c:=by rw[hH0];exact(w1.HB).l3
   have jJ:(List.replicate fs.length [I 0,S [],Aa.slnil]).flatten.length=fs.length*3:=by rw[D0 (z:=3) (by intro r hr;rw[(List.mem_replicate.1 hr).2];rfl),Gr]
   have cp:Ed (.copy 3) (H0++[C6.cells (List.replicate fs.length [I 0,S [],.slnil]).flatten]) [.Ck H0.length 0 fs.length 3,c]=some (H0++[C6.cells (fs.map B0.row).flatten],I (fs.length:Int)):=by
    have er:Ft (H0++[C6.cells (List.replicate fs.length [I 0,S [],.slnil]).flatten]) 3 c=some (fs.map B0.row):=by
     rcases hv with rfl|⟨rfl,h0⟩
     .simp[Ft]
     .rw[h0];rfl
    simp only[Ed,ZN,er,c0];rw[if_pos ⟨trivial,by simp,by rw[jJ];omega⟩];have h1:(List.replicate fs.length [I 0,S [],Aa.slnil]).flatten.drop (0+(fs.map B0.row).length*3)=[]:=AY (by rw[jJ,Ah];omega);rw[h1,JQ,BD,Bv,Ah,BP _ _ (Ac _),CY];rfl
   have lm:Aw (.len false) [.Ck H0.length 0 fs.length 3]=some (I (fs.length:Int)):=rfl;simp only[AA,↓reduceIte,Bi,l32,cp,lm];have hrow:(fs.map B0.row).flatten.length=fs.length*3:=by rw[D0 (LW fs),Ah]
   have hvs:∀k (hk:k<fs.length),(fs.map B0.row).flatten[k*3+2]?=some fs[k].v:=λk hk=>by
    have hg:(fs.map B0.row)[k]?=some fs[k].row:=by rw[Cc,Ai hk];rfl
    exact IA (LW fs) (k:=2) (by decide) hg
   refine Db (i:=2) (λn:Nat=>[I (n:Int)]) (λn h1=>n<=fs.length/\∃(u2:Ag) (cs:List Aa) (us:List (Aa×Nat)),h1=H0++u2/\u2[0]?=some (.cells cs)/\cs.length=fs.length*3/\us.length=n/\(∀k (hk:k<us.length),cs[k*3+2]?=some us[k].1/\JP (H0++u2) (H0.length+1) 1000 us[k].2 us[k].1)/\∀k (hk:k<fs.length),n<=k->cs[k*3+2]?=some fs[k].v) (λn=>fs.length-n) (λn h1=>∃(u2:Ag) (us:List (Aa×Nat)),h1=H0++u2/\us.length=fs.length/\GI (H0++u2) H0.length 1000 us) 0 rfl ⟨AO _,[.cells (fs.map B0.row).flatten],_,[],rfl,rfl,hrow,rfl,λk hk=>(nomatch hk),λk hk _=>hvs k hk⟩ ?_ ?_
   .rintro n h1 ⟨hn,u2,cs,us,rfl,HU,hcl,UC,RG,Xj⟩;have hu2l:0<u2.length:=(Ae.1 HU).1;have cc:(H0++u2)[H0.length]?=some (.cells cs):=by rw[A5 (Ac _),CY];exact HU
    rcases AN n fs.length with hlt|DT
    .have ef:fs[n].c=b.A3[n]'(by omega):=by simp only[<-F0,CN]
     have hal:=(rm.Dj fs[n].c (by rw[ef];exact AI _)).2;have e1:Aw (.EE 3) [.Ck H0.length 0 fs.length 3,I (n:Int)]=some (Pt H0.length (n*3)):=DO hlt;have l2:A9 (H0++u2) none (Pt H0.length (n*3+2))=some fs[n].v:=by simp only[A9,cc,Dz];exact Xj n hlt (Ac _)
     obtain⟨av,ta,r1,bw,aCt⟩:=c_ fs[n].ok hal (H0++u2);have cc2:(H0++u2++ta)[H0.length]?=some (.cells cs):=by rw[Ad (by simp;omega)];exact cc
     have s1:Cd (H0++u2++ta) 1 (Pt H0.length (n*3+2)) av=some (H0++(u2++ta).set 0 (.cells (cs.set (n*3+2) av))):=by
      have aMT:n*3+2<cs.length:=by omega
      simp only[Cd,cc2,bw,Bc,LZ];rw[if_pos (by omega),<-J0 aMT,Ax H0 u2 ta,BP _ _ (Ac _),CY,Ax];rfl
     have Me:Sub (H0.length+1) (H0++u2) (H0++(u2++ta).set 0 (.cells (cs.set (n*3+2) av))):=λi x hi hx=>by rw[A5 (by omega)] at hx⊢;rw[Af (by omega),Ad (Ae.1 hx).1];exact hx
     have aH9:Sub (H0.length+1) (H0++u2++ta) (H0++(u2++ta).set 0 (.cells (cs.set (n*3+2) av))):=λi x hi hx=>by rw[Ax,A5 (by omega)] at hx;rw[A5 (by omega),Af (by omega)];exact hx
     have aIa:JP (H0++(u2++ta).set 0 (.cells (cs.set (n*3+2) av))) (H0.length+1) 1000 fs[n].c.Ay.length av:=by refine JP.Cv ⟨aCt.1,aCt.2.1,λh0=>?_⟩ aH9;obtain⟨id,FI,q1,q2,q3⟩:=aCt.2.2 h0;rw[Ao] at q2;exact⟨id,FI,q1,by omega,q3⟩
     simp only[AA,Bi,show(n:Int)<(fs.length:Int) by omega,e1,l2,r1.call,s1,BB (show n<9223372036854775807 by omega)];refine .next (n+1) rfl ⟨hlt,_,cs.set (n*3+2) av,us++[(av,fs[n].c.Ay.length)],rfl,AG (by simp;omega),by rw[Be];exact hcl,by simp[UC],λk hk=>?_,λk hk qg=>?_⟩ (by omega)
     .by_cases gx:k<us.length;·rw[GL gx];exact⟨by rw[Af (by omega)];exact(RG k gx).1,(RG k gx).2.Cv Me⟩
      .have e:k=us.length:=by simp at hk;omega
       subst e;rw[List.getElem_append_right (Ac _)];simp only[CY,List.getElem_cons_zero,UC];exact⟨AG (by omega),aIa⟩
     .rw[Af (by omega)];exact Xj k hk (by omega)
    .simp only[AA,Bi,show¬(n:Int)<(fs.length:Int) by omega];exact .GM n rfl ⟨u2,us,rfl,by omega,by omega,cs,cc,by omega,RG⟩
   .rintro n h1 ⟨u2,us,rfl,UC,RG⟩;simp only[AA,↓reduceIte];refine⟨_,rfl,Ov b.Rx t' O (.Ck H0.length 0 fs.length 3),ut++u++u2,rfl,by rw[hH0,hHt,Ax,Ax,Ax],b.Rx,t',O,b.tm.length,(b.AR.map Item.node).length,Ht.length,H0.length,us,by rw[UC],by rw[hHt];simp,by rw[hH0];simp,?_,?_,?_⟩;·rw[show h++(ut++u++u2)=Ht++(u++u2) by rw[hHt];simp only[Ax]];exact Fp.Cv λi x _ hi hx=>by rw[Ad hi];exact hx
    .rw[show h++(ut++u++u2)=H0++u2 by rw[hH0,hHt];simp only[Ax]];exact hOs.Cv λi x _ hi hx=>by rw[Ad hi];exact hx
    .rw[show h++(ut++u++u2)=H0++u2 by rw[hH0,hHt];simp only[Ax]];exact RG
 obtain⟨r,h',hr,r',u,rfl,rfl,hs⟩:=H5.ret;exact⟨r',u,hr,hs⟩
end
theorem aIb{s:As}(hs:s.length<=4000000000000000000):Aw (.str .add) [.str s,S [120]]=some (.str (s++[120])):=by simp only[Aw,WV,Bc];rw[if_pos (by omega)]
theorem aCu(s:EK){av:Aa}(hv:Bz s.Ay av){l:List QO}{v:Aa}(ho:pP l v)(hr:∀x∈l,-2147483648<=x.q.r/\x.q.r<=2147483647):Ev cx 4 [.agg (Ou s av),v] [] λr _=>r= .bool true:=by
 have r4:BI cx 20 [v,I 60] [] (.bool (decide (Oy l 60))) []:=f4 ho (m:=60) (by decide) [];have r5:=f5 s hv [];have ZD:av.cells=[av]:=AM.cells hv;unfold Ev;rw[aEx,t4,Ou];by_cases c1:Oy l 60
 .rw[AD c1] at r4;by_cases c2:X1 s
  .rw[AD c2] at r5;obtain⟨h1,bi,wi,F,F2,r7,w⟩:=f7w s hv c2.2.xq (by have:=c2.1;omega) ho c1.1 (λx hx=>(c1.2 x hx).ok (hr x hx)) [];have jV:Ox (Mz s.b l) 40:=Sr (j:=40) (s.jV.le (by have:=c1.1;omega)) λx hx=>(c1.2 x hx).ok (hr x hx);obtain⟨a,o,c,t,G,wp,hc,e1⟩:=w.p;obtain⟨r,u,r9,s',t',o',n1,n2,p1,p2,us,rfl,O8,hp2,ht,hO,hE⟩:=da wp hc jV.sz.rm;rw[Ou] at r7;have htc:=ht.1;have hoc:=hO.1;simp only[AA,Bi,r4.call,r5.call,r7.call,r9.call,Ov,htc,hoc];obtain⟨H,hH⟩:∃H,H=h1++u:=⟨_,rfl⟩;have hK:∀i,i<h1.length->H[i]?=h1[i]?:=λi hi=>by rw[hH];exact Ad hi
   rw[<-hH] at ht hO hE⊢;clear r9 hH u;refine Db (i:=0) (λn:Nat=>[I (n:Int)]) (λn h=>n<=n2/\(∀i,i<h1.length->h[i]?=h1[i]?)/\Jl h h1.length p1 n1 t'/\Jl h p1 p2 n2 o'/\GI h p2 1000 us) (λn=>n2-n) (λn h=>(∀i,i<h1.length->h[i]?=h1[i]?)/\Jl h h1.length p1 n1 t'/\GI h p2 1000 us) 0 rfl ⟨AO _,hK,ht,hO,hE⟩ ?_ ?_
   .rintro n h ⟨hn,k0,k1,k2,k3⟩;have lo:=k2.2.1;have hb:=k2.2.2.1;rcases AN n n2 with hlt|DT
    .obtain⟨a',h',q1,q2,q3,q4⟩:=k2.step hlt (I (-5)) rfl;simp only[AA,Bi,lo,show(n:Int)<(n2:Int) by omega,q1,q2,BB (show n<9223372036854775807 by omega)];exact .next (n+1) rfl ⟨hlt,λi hi=>by rw[q4 i (by omega)];exact k0 i hi,k1.Cv λi x _ hi hx=>by rw[q4 i (by omega)];exact hx,q3,k3.Cv λi x hi hx=>by rw[q4 i (by omega)];exact hx⟩ (by omega)
    .simp only[AA,Bi,lo,show¬(n:Int)<(n2:Int) by omega];exact .GM n rfl ⟨k0,k1,k3⟩
   rintro n h ⟨k0,k1,k3⟩;simp only[AA,↓reduceIte];refine Db (i:=2) (λn:Nat=>[I (n:Int)]) (λn h=>n<=n1/\(∀i,i<h1.length->h[i]?=h1[i]?)/\Jl h h1.length p1 n1 t'/\GI h p2 1000 us) (λn=>n1-n) (λn h=>(∀i,i<h1.length->h[i]?=h1[i]?)/\GI h p2 1000 us) 0 rfl ⟨AO _,k0,k1,k3⟩ ?_ ?_
   .rintro n h ⟨hn,k0,k2,k3⟩;have lo:=k2.2.1;have hb:=k2.2.2.1;rcases AN n n1 with hlt|DT
    .obtain⟨a',h',q1,q2,q3,q4⟩:=k2.step hlt (I (-5)) rfl;simp only[AA,Bi,lo,show(n:Int)<(n1:Int) by omega,q1,q2,BB (show n<9223372036854775807 by omega)];exact .next (n+1) rfl ⟨hlt,λi hi=>by rw[q4 i (by omega)];exact k0 i hi,q3,k3.Cv λi x hi hx=>by rw[q4 i (by omega)];exact hx⟩ (by omega)
    .simp only[AA,Bi,lo,show¬(n:Int)<(n1:Int) by omega];exact .GM n rfl ⟨k0,k3⟩
   rintro n h ⟨k0,k3⟩;simp only[AA,↓reduceIte];have lm:Aw (.len false) [.Ck p2 0 us.length 3]=some (I (us.length:Int)):=rfl;have RG:=hE.1;refine Db (i:=4) (λn:Nat=>[I (n:Int)]) (λn h=>n<=us.length/\(∀i,i<h1.length->h[i]?=h1[i]?)/\∃L,L<=1000+1000000000*n/\GI h p2 L us) (λn=>us.length-n) (λn h=>∀i,i<h1.length->h[i]?=h1[i]?) 0 rfl ⟨AO _,k0,1000,by omega,k3⟩ ?_ ?_
   .rintro n h ⟨hn,k0,L,hL,k3⟩;rcases AN n us.length with hlt|DT
    .have ea:Aw (.EE 3) [.Ck p2 0 us.length 3,I (n:Int)]=some (Pt p2 (n*3)):=DO hlt;have hm:=(k3.at_ hlt).2.2.1;simp only[AA,Bi,lm,show(n:Int)<(us.length:Int) by omega];refine Db (i:=6) (λj:Nat=>[I (j:Int)]) (λj h=>j<=us[n].2/\(∀i,i<h1.length->h[i]?=h1[i]?)/\∃L,L<=1000+1000000000*n+j/\GI h p2 L us) (λj=>us[n].2 -j) (λj h=>(∀i,i<h1.length->h[i]?=h1[i]?)/\∃L,L<=1000+1000000000*(n+1)/\GI h p2 L us) 0 rfl ⟨AO _,k0,L,by omega,k3⟩ ?_ ?_
     .rintro j h ⟨hj,k0,L,hL,k3⟩;obtain⟨l0,s0⟩:=k3.at_ hlt;have ln:=s0.1;rcases AN j us[n].2 with ZG|hjg
      .obtain⟨id,sv,h',q1,q2,q3,q4,q5,q6⟩:=k3.aMS hlt ZG;simp only[AA,Bi,ea,l0,ln,show(j:Int)<(us[n].2:Int) by omega,q1,q2,aIb (show sv.length<=4000000000000000000 by omega),q4,BB (show j<9223372036854775807 by omega)];exact .next (j+1) rfl ⟨ZG,λi hi=>by rw[q6 i (by omega)];exact k0 i hi,L+1,by omega,q5⟩ (by omega)
      .simp only[AA,Bi,ea,l0,ln,show¬(j:Int)<(us[n].2:Int) by omega];exact .GM j rfl ⟨k0,L,by omega,k3⟩
     .rintro j h ⟨k0,L,hL,k3⟩;obtain⟨h',q1,q2,q3⟩:=k3.node hlt;simp only[AA,↓reduceIte,Bi,ea,Bn,q1,BB (show n<9223372036854775807 by omega)];exact .next (n+1) rfl ⟨hlt,λi hi=>by rw[q3 i (by omega)];exact k0 i hi,L,by omega,q2⟩ (by omega)
    .simp only[AA,Bi,lm,show¬(n:Int)<(us.length:Int) by omega];exact .GM n rfl k0
   rintro n h k0;simp only[AA,↓reduceIte];have w':Sq h bi wi (Mz s.b l) F F2:=⟨w.p.Cv λi hi=>k0 i (w.p.lt hi),w.r.Cv λi hi=>k0 i (w.r.lt hi),w.d⟩;obtain⟨u,r8⟩:=f8w w' jV;simp only[AA,Bi,r8.call,Ss];exact⟨_,rfl,rfl⟩
  .rw[AB c2] at r5;simp only[AA,Bi,r4.call,r5.call,Ss];exact⟨_,rfl,rfl⟩
 .rw[AB c1] at r4;simp only[AA,Bi,r4.call,Ss];exact⟨_,rfl,rfl⟩
theorem s_:∀l,TW [Zy,.sl tOp] l->Ev cx 4 l [] λr _=>r= .bool true:=by rintro _ ⟨a,_,rfl,ha,b,_,rfl,hb,rfl⟩;obtain⟨s,av,rfl,hv⟩:=jY ha;obtain⟨l,ho,hr⟩:=cy hb;exact aCu s hv ho hr
end Go.Am
end
