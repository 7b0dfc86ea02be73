/- Lemmas -/
import Derived.Test.YtbnogamdhadfcaaGreatDoorU31
import Derived.Test.YtbnogamdhadfcaaGreatDoorU8
set_option linter.unusedVariables false
set_option linter.unusedSimpArgs false
section
namespace Go.Am
open Go
set_option maxRecDepth 100000
abbrev cq:Ty:= .st [.int .i64,.str,.str]
abbrev tOp:Ty:= .st [.int .i64,.str,.sl cq,.int .i64,.int .i64,.bool,.str,.int .i32,.int .i64]
abbrev cr:Ty:= .st [.int .i64,.str,.sl cq,.bool,.bool]
abbrev aCz:Ty:= .st [.bool,cr]
theorem XY{α:Type}{P:List Aa->Prop}{f:α->List Aa}{Q:α->Prop}(h:∀r,P r->∃a,r=f a/\Q a):∀{Au:List (List Aa)},(∀r∈Au,P r)->∃l:List α,Au=l.map f/\∀a∈l,Q a
 |[],_=>⟨[],rfl,by simp⟩
 |r::Au,hr=>by obtain⟨a,rfl,hq⟩:=h r (hr r (by simp));obtain⟨l,rfl,hl⟩:=XY h (Au:=Au) λr h=>hr r (by simp[h]);exact⟨a::l,rfl,by simpa[hq] using hl⟩
theorem Zw{α:Type}{e:Ty}{f:α->List Aa}{Q:α->Prop}(h:∀r,Yk e r->∃a,r=f a/\Q a){v:Aa}(hv:Yk (.sl e) [v]):∃l:List α,AL (Ty.size e) (l.map f) v/\l.length<=maxLen/\∀a∈l,Q a:=by
 unfold Yk at hv;rcases hv with e1|⟨Au,e1,hl,hr⟩
 .cases e1;exact⟨[],.nil,by simp,by simp⟩
 .cases e1;obtain⟨l,rfl,hq⟩:=XY h hr;exact⟨l,.mk,by simpa using hl,hq⟩
theorem KI{r:List Aa}{k:IntKind}(h:Yk (.int k) r):∃n,r=[.int k n]/\(Lit.int k n).wf=true:=h
theorem OV{r:List Aa}(h:Yk .str r):∃s:As,r=[.str s]:=let⟨n,e,_⟩:=h;⟨n,e⟩
theorem Mx{r:List Aa}(h:Yk .bool r):∃b,r=[.bool b]:=h
theorem C5{t:Ty}{ts:List Ty}{l:List Aa}(h:q6 (t::ts) l):∃a b,l=a++b/\Yk t a/\q6 ts b:=h
theorem Ot{l:List Aa}(h:q6 [] l):l=[]:=h
theorem Sn{e:Ty}{r:List Aa}(h:Yk (.sl e) r):∃v,r=[v]/\Yk (.sl e) [v]:=by have h':=h;unfold Yk at h';rcases h' with rfl|⟨Au,rfl,_⟩<;>exact⟨_,rfl,h⟩
theorem Wc(r:List Aa)(h:Yk cq r):∃a:AW,r=a.row/\True:=by obtain⟨x1,y1,rfl,h1,h⟩:=C5 h;obtain⟨x2,y2,rfl,h2,h⟩:=C5 h;obtain⟨x3,y3,rfl,h3,h⟩:=C5 h;obtain rfl:=Ot h;obtain⟨n,rfl,_⟩:=KI h1;obtain⟨s,rfl⟩:=OV h2;obtain⟨t,rfl⟩:=OV h3;exact⟨⟨n,s,t⟩,rfl,trivial⟩
theorem aCA(r:List Aa)(h:Yk tOp r):∃a:QO,r=a.row/\(-2147483648<=a.q.r/\a.q.r<=2147483647):=by obtain⟨x1,y1,rfl,h1,h⟩:=C5 h;obtain⟨x2,y2,rfl,h2,h⟩:=C5 h;obtain⟨x3,y3,rfl,h3,h⟩:=C5 h;obtain⟨x4,y4,rfl,h4,h⟩:=C5 h;obtain⟨x5,y5,rfl,h5,h⟩:=C5 h;obtain⟨x6,y6,rfl,h6,h⟩:=C5 h;obtain⟨x7,y7,rfl,h7,h⟩:=C5 h;obtain⟨x8,y8,rfl,h8,h⟩:=C5 h;obtain⟨x9,y9,rfl,h9,h⟩:=C5 h;obtain rfl:=Ot h;obtain⟨n1,rfl,_⟩:=KI h1;obtain⟨s2,rfl⟩:=OV h2;obtain⟨v,rfl,h3⟩:=Sn h3;obtain⟨l,h3,_,_⟩:=Zw Wc h3;obtain⟨n4,rfl,_⟩:=KI h4;obtain⟨n5,rfl,_⟩:=KI h5;obtain⟨b6,rfl⟩:=Mx h6;obtain⟨s7,rfl⟩:=OV h7;obtain⟨n8,rfl,w8⟩:=KI h8;obtain⟨n9,rfl,_⟩:=KI h9;refine⟨⟨⟨n1,s2,l,n4,n5,b6,s7,n8,n9⟩,v,h3⟩,rfl,?_⟩;have m1:IntKind.i32.min= -2147483648:=rfl;have m2:IntKind.i32.max=2147483647:=rfl;simp[Lit.wf,m1,m2] at w8;exact w8
theorem aCB{v:Aa}(h:fR aCz v):∃(s:DU) (av:Aa),v= .agg (O4 s av)/\Bx s.Ax av:=by obtain⟨r,rfl,h⟩:=h;obtain⟨x1,y1,rfl,h1,h⟩:=C5 h;obtain⟨x2,y2,rfl,h2,h⟩:=C5 h;obtain rfl:=Ot h;obtain⟨b1,rfl⟩:=Mx h1;obtain⟨x3,y3,rfl,h3,h⟩:=C5 h2;obtain⟨x4,y4,rfl,h4,h⟩:=C5 h;obtain⟨x5,y5,rfl,h5,h⟩:=C5 h;obtain⟨x6,y6,rfl,h6,h⟩:=C5 h;obtain⟨x7,y7,rfl,h7,h⟩:=C5 h;obtain rfl:=Ot h;obtain⟨n3,rfl,_⟩:=KI h3;obtain⟨s4,rfl⟩:=OV h4;obtain⟨v,rfl,h5⟩:=Sn h5;obtain⟨l,h5,_,_⟩:=Zw Wc h5;obtain⟨b6,rfl⟩:=Mx h6;obtain⟨b7,rfl⟩:=Mx h7;exact⟨⟨b1,n3,s4,l,b6,b7⟩,v,rfl,h5⟩
theorem aIe{v:Aa}(h:fR (.sl tOp) v):∃l:List QO,bq l v/\∀x∈l,-2147483648<=x.q.r/\x.q.r<=2147483647:=by have h:Yk (.sl tOp) [v]:=h;obtain⟨l,h1,_,h2⟩:=Zw aCA h;exact⟨l,h1,h2⟩
def Ge(l:List AW):Prop:=l.length<=20/\∀x∈l,x.name.length<=400/\x.value.length<=400
instance(l:List AW):Decidable (Ge l):=by unfold Ge;infer_instance
theorem Ge.xt{l:List AW}(h:Ge l):DL l:=⟨by have:=h.1;omega,λa ha=>by have:=h.2 a ha;omega⟩
section
variable{h:Ae}
theorem f9{v:Aa}{l:List AW}(hv:Bx l v)(h:Ae):BE cx 28 [v] h (.bool (decide (Ge l))) h:=by
 have Du:AL 3 (l.map AW.row) v:=hv;have lm:=AL.Cq hv;rw[Ab,aAg,t28];refine A9 (λn:Nat=>[ff,I (n:Int)]) (λn h1=>n<=l.length/\n<=21/\(∀x∈l.take n,x.name.length<=400/\x.value.length<=400)/\h1=h) (λn=>l.length-n) 0 rfl ⟨AO _,AO _,by simp,rfl⟩ ?_;rintro n h1 ⟨hn,hb,ha,rfl⟩;rcases AT n l.length with hlt|D2
 .have e1:=AL.Bz (k:= .i64) hv hlt;rw[AW.row] at e1;have Tg:¬(l[n].name.length<=400/\l[n].value.length<=400)->¬Ge l:=λh1 h2=>h1 (h2.2 _ (AJ hlt));by_cases MC:n<=20
  .by_cases c1:(400:Int)<(l[n].name.length:Int);·have e:decide (Ge l)=false:=AA (Tg (by omega));rw[e];simp only[Az,Bi,lm,show(n:Int)<(l.length:Int) by omega,show(n:Int)<=20 by omega,e1,c1]
   .by_cases c2:(400:Int)<(l[n].value.length:Int);·have e:decide (Ge l)=false:=AA (Tg (by omega));rw[e];simp only[Az,Bi,lm,show(n:Int)<(l.length:Int) by omega,show(n:Int)<=20 by omega,e1,c1,c2]
    .simp only[Az,Bi,lm,show(n:Int)<(l.length:Int) by omega,show(n:Int)<=20 by omega,e1,c1,c2,BG (show n<9223372036854775807 by omega)];refine AF.next (n+1) rfl ⟨hlt,by omega,λx hx=>?_,rfl⟩ (by omega);rw[Av hlt,Ao,Fl] at hx;rcases hx with hx|rfl
     .exact ha x hx
     .exact⟨by omega,by omega⟩
  .have e:decide (Ge l)=false:=AA λh=>by have:=h.1;omega
   rw[e];simp only[Az,Bi,lm,show(n:Int)<(l.length:Int) by omega,show¬(n:Int)<=20 by omega,show¬(l.length:Int)<=20 by omega,Fj]
 .rw[Ay D2] at ha;have e2:decide (Ge l)=decide ((l.length:Int)<=20):=by rw[D1];exact⟨λh=>by have:=h.1;omega,λh=>⟨by omega,ha⟩⟩
  rw[e2];simp only[Az,Bi,lm,show¬(n:Int)<(l.length:Int) by omega]
def XZ(s:DU):Prop:=s.name.length<=60/\Ge s.Ax
instance(s:DU):Decidable (XZ s):=by unfold XZ;infer_instance
theorem f5(s:DU){av:Aa}(hv:Bx s.Ax av)(h:Ae):BE cx 6 [.agg [I s.AX,.str s.name,av,.bool s.Cb,.bool s.Kv]] h (.bool (decide (XZ s))) h:=by
 have r1:=f9 hv h;have Wr:av.cells=[av]:=AL.cells hv;rw[Ab,aED,t6];by_cases c1:(s.name.length:Int)<=60
 .have e:decide (XZ s)=decide (Ge s.Ax):=by rw[D1];exact⟨λh=>h.2,λh=>⟨by omega,h⟩⟩
  rw[e];simp only[Az,Bi,c1,r1.call]
 .have e:decide (XZ s)=false:=AA λh=>by have:=h.1;omega
  rw[e];simp only[Az,Bi,c1]
def jX(q:dI):Prop:=q.name.length<=60/\q.s.length<=200/\Ge q.Ax
instance(q:dI):Decidable (jX q):=by unfold jX;infer_instance
theorem jX.ok{q:dI}(h:jX q)(hr: -2147483648<=q.r/\q.r<=2147483647):bk q:=⟨by have:=h.1;omega,h.2.2.xt,by have:=h.2.1;omega,hr⟩
def Rn(l:List QO)(m:Nat):Prop:=l.length<=m/\∀x∈l,jX x.q
instance(l:List QO)(m:Nat):Decidable (Rn l m):=by unfold Rn;infer_instance
theorem f4{v:Aa}{l:List QO}(hv:bq l v){m:Nat}(hm:m<=1000)(h:Ae):BE cx 20 [v,I (m:Int)] h (.bool (decide (Rn l m))) h:=by
 have lm:=AL.Cq hv;rw[Ab,aAd,t20];refine A9 (λn:Nat=>[ff,I (n:Int)]) (λn h1=>n<=l.length/\n<=m+1/\(∀x∈l.take n,jX x.q)/\h1=h) (λn=>l.length-n) 0 rfl ⟨AO _,AO _,by simp,rfl⟩ ?_;rintro n h1 ⟨hn,hb,ha,rfl⟩;rcases AT n l.length with hlt|D2
 .have e1:=AL.Bz (k:= .i64) hv hlt;have r9:=f9 l[n].ok h1;have Tg:¬jX l[n].q->¬Rn l m:=λh1 h2=>h1 (h2.2 _ (AJ hlt));rw[QO.row,Kz] at e1;by_cases MC:n<=m
  .by_cases c1:(60:Int)<(l[n].q.name.length:Int);·have e:decide (Rn l m)=false:=AA (Tg λh=>by have:=h.1;omega);rw[e];simp only[Az,Bi,lm,show(n:Int)<(l.length:Int) by omega,show(n:Int)<=(m:Int) by omega,e1,c1]
   .by_cases c2:(200:Int)<(l[n].q.s.length:Int);·have e:decide (Rn l m)=false:=AA (Tg λh=>by have:=h.2.1;omega);rw[e];simp only[Az,Bi,lm,show(n:Int)<(l.length:Int) by omega,show(n:Int)<=(m:Int) by omega,e1,c1,c2]
    .by_cases c3:Ge l[n].q.Ax
     .rw[AD c3] at r9;simp only[Az,Bi,lm,show(n:Int)<(l.length:Int) by omega,show(n:Int)<=(m:Int) by omega,e1,c1,c2,r9.call,BG (show n<9223372036854775807 by omega)];refine AF.next (n+1) rfl ⟨hlt,by omega,λx hx=>?_,rfl⟩ (by omega);rw[Av hlt,Ao,Fl] at hx;rcases hx with hx|rfl
      .exact ha x hx
      .exact⟨by omega,by omega,c3⟩
     .have e:decide (Rn l m)=false:=AA (Tg λh=>c3 h.2.2);rw[AA c3] at r9;rw[e];simp only[Az,Bi,lm,show(n:Int)<(l.length:Int) by omega,show(n:Int)<=(m:Int) by omega,e1,c1,c2,r9.call]
  .have e:decide (Rn l m)=false:=AA λh=>by have:=h.1;omega
   rw[e];simp only[Az,Bi,lm,show(n:Int)<(l.length:Int) by omega,show¬(n:Int)<=(m:Int) by omega,show¬(l.length:Int)<=(m:Int) by omega,Fj]
 .rw[Ay D2] at ha;have e2:decide (Rn l m)=decide ((l.length:Int)<=(m:Int)):=by rw[D1];exact⟨λh=>by have:=h.1;omega,λh=>⟨by omega,ha⟩⟩
  rw[e2];simp only[Az,Bi,lm,show¬(n:Int)<(l.length:Int) by omega]
end
theorem So{Q:Post}{h:Ae}{k:Aa->IT}:W cx (.Be 7 [] k) Q h↔W cx (k (.bool true)) Q h:=JE.Be tJ rfl rfl
section
variable{h h':Ae}{bi wi a:Nat}{b:BS}{F F2 G:Nat->Prop}{o c t:Aa}{j m:Nat}
end
section
variable{h h':Ae}{bi a n:Nat}{m:Option Nat}{ps:List PN}{A:Ar}{x:Int}{F:Nat->Prop}
def ct:List Aa:=[I 0,I 0,.slnil,I 0,I 0,S [],.slnil,S [],S [],S [],ff,I 0,I 0]
theorem sx(x:Int)(h:Ae):BE cx 45 [.ptr none,I x] h (.tuple [.agg ct,I 1]) h:=by
 have r1:BE cx 107 [.ptr none,.sl 1 [[I x]]] h (I 1) h:=by rw[Ab,YT,js];simp only[Az,Bi]
 rw[Ab,YR,t45];simp only[Az,↓reduceIte,AI,Bi,FW,r1.call,ne_eq,show¬(1:Int)=0 by decide,Ds,ct]
theorem Zx(x:Int)(h:Ae):BE cx 15 [.ptr none,I x] h (.ptr none) h:=by have r1:=sx x h;rw[ct] at r1;rw[Ab,Vw,t15];simp only[Az,Nat.reduceLeDiff,↓reduceIte,AI,Bi,r1.call,ne_eq,show¬(1:Int)=0 by decide,Ds]
theorem cu(w:PA h a n m ps A)(lm:LF A)(hk:(A.nd x).AZ.length<=1000000000)(hd:¬(A.has x/\(A.nd x).kind=1)):∃t,BE cx 15 [Pt a 0,I x] h (.ptr none) (h++t):=by
 obtain⟨r,t,r1,hr⟩:=qe (x:=x) w lm hk;obtain⟨K,V,rfl,hK,hV,_⟩:=hr;have Kc:K.cells=[K]:=AL.cells hK;have Vc:=hV.cells;refine⟨t,?_⟩;rw[Ab,Vw,t15];by_cases hx:A.has x;·have Uv:¬(A.nd x).kind=1:=λh=>hd ⟨hx,h⟩;rw[if_pos hx] at r1;simp only[Az,Nat.reduceLeDiff,↓reduceIte,AI,Bi,r1.call,Kc,Vc,ne_eq,Cu,Uv]
 .rw[if_neg hx] at r1;simp only[Az,Nat.reduceLeDiff,↓reduceIte,AI,Bi,r1.call,Kc,Vc,ne_eq,show¬(3:Int)=0 by decide,Ds]
theorem pY(x:Int)(h:Ae){c:List Aa}(hc:c.length=5):BE cx 16 [.ptr none,I x,.agg c] h (.ptr none) h:=by
 have r1:=Zx x h;rw[Ab,Qb,vn];match c,hc with
 |[c0,c1,c2,c3,c4],_=>simp only[Az,Bi,r1.call]
theorem aCC(w:PA h a n m ps A)(lm:LF A)(hk:(A.nd x).AZ.length<=1000000000)(hd:¬(A.has x/\(A.nd x).kind=1)){c:List Aa}(hc:c.length=5):∃t,BE cx 16 [Pt a 0,I x,.agg c] h (.ptr none) (h++t):=by
 obtain⟨t,r1⟩:=cu w lm hk hd;refine⟨t,?_⟩;rw[Ab,Qb,vn];match c,hc with
 |[c0,c1,c2,c3,c4],_=>simp only[Az,Bi,r1.call]
def jY:Ar:=(ZK false).add (Hq 6 1 [120]).x
def JL:BS:={CV false with a:=jY}
theorem Wd(x:Int):jY.nd x=if x=1 then{kind:=1,Cy:=1} else if x=2 then(Hq 6 1 [120]).x else{}:=by
 unfold Ar.nd;by_cases h:x=1;·subst h;rfl
 .by_cases h2:x=2;·subst h2;rfl
  .rw[if_neg h,if_neg h2,if_neg];intro hh;have h1:=hh.1;have h3:=hh.2;simp[jY,ZK,Ar.add] at h3;omega
theorem Zy:Sz JL 100:=by
 refine⟨⟨by simp[JL,jY,CV,ZK,Ar.add],λx=>?_,λx=>?_,by simp[JL,CV],by simp[JL,CV],by simp[JL,CV],λe he=>(nomatch he),λi hi=>(nomatch hi)⟩,by simp[JL,CV],by simp[JL,CV]⟩
 .show(jY.nd x).Ax.length+_<=_;rw[Wd];split;·simp
  .split<;>simp[Hq]
 .show(jY.nd x).data.length+_<=_;rw[Wd];split;·simp
  .split<;>simp[Hq]
theorem Ro(x:Int):(jY.nd x).AZ.length<=1000000000:=by
 rw[Wd];split;·simp
 .split<;>simp[Hq]
theorem sy{x:Int}(hx:x≠1):¬(jY.has x/\(jY.nd x).kind=1):=by rw[Wd,if_neg hx];rintro⟨_,h⟩;revert h;split<;>simp[Hq]
theorem aIf(h:Ae):∃h1 h2 h3 ps,BE cx 12 [] h (Pt h.length 0) h1/\BE cx 13 [Pt h.length 0,ff] h1 (I 1) h2/\BE cx 14 [Pt h.length 0,I 1,S [120]] h2 (.tuple [I 2,I 0]) h3/\PA h3 h.length (h.length+2) none ps jY/\(∀i,i∈Fi h.length (h.length+2) none ps->h.length<=i)/\h.length<=h3.length/\∀i,i<h.length->h3[i]?=h[i]?:=by
 obtain⟨h1,h2,r1,r2,wa,eh⟩:=aHt h false;have lm:=(LJ false).rm.Tq;have hx:(ZK false).has 1:=⟨Fq 1,Fq 1⟩;have kR:(ZK false).nd 1={kind:=1,Cy:=1,Cb:=false}:=(LI (q:=false) 1).trans (if_pos rfl);obtain⟨h3,r3,w3,o3,l3⟩:=we (s:=[120]) wa lm (by simp[Ar.len,ZK]) ⟨hx,by rw[kR]⟩;have hl:h2.length=h.length+2:=by rw[eh];simp
 refine⟨h1,h2,h3,_,r1,r2,r3,by rw[<-hl];exact w3,λi hi=>?_,by omega,λi hi=>?_⟩;·simp[Fi,GK,Hq] at hi;omega
 .rw[o3 i (by omega) (by omega) (by omega),eh,Ad hi]
theorem aMW(w:PA h a n m ps jY):∃t,BE cx 15 [Pt a 0,I 1] h (.ptr (some ((h++t).length,0))) (h++t++[.cells (EI a JL .slnil .slnil .slnil)]):=by obtain⟨r,t,r3,K,V,rfl,hK,hV,_⟩:=qe (x:=1) w Zy.rm.Tq (Ro 1);have hx:jY.has 1:=⟨Fq 1,by decide⟩;have kR:jY.nd 1={kind:=1,Cy:=1}:=(Wd 1).trans (if_pos rfl);rw[if_pos hx,kR] at r3;refine⟨t,?_⟩;rw[Ab,Vw,t15];simp only[Az,Nat.reduceLeDiff,↓reduceIte,AI,Bi,r3.call,aaS];exact⟨λh=>absurd rfl h,λ_=>⟨λh=>absurd rfl h,λ_=>rfl⟩⟩
theorem bxC(w:PA h a n m ps jY)(t:Ae):BX (h++t++[.cells (EI a JL .slnil .slnil .slnil)]) (h++t).length a .slnil .slnil .slnil (λi=>i∈Fi a n m ps) JL:=by have wt:PA (h++t) _ _ _ _ _:=w.CP λi hi=>Ad (w.lt i hi);refine⟨by simp,.inr ⟨rfl,rfl⟩,.inr ⟨rfl,rfl⟩,⟨_,_,_,wt.CP λi hi=>Ad (wt.lt i hi),λi=>Iff.rfl⟩,λhm=>absurd (wt.lt _ hm) (C8 _)⟩
theorem aIg(h:Ae)(lo:Nat):Pz h lo JL.OZ .slnil .slnil .slnil:=⟨.inr ⟨rfl,rfl⟩,.inl ⟨rfl,rfl⟩,.inl ⟨rfl,rfl⟩⟩
theorem aMX{bi:Nat}{G:Nat->Prop}(w:BX h bi a .slnil .slnil .slnil G JL):∃t' o' c' u,BE cx 17 [Pt bi 0] h (.agg (LL JL.OZ t' o' c')) (h++u)/\BE cx 18 [.agg (LL JL.OZ t' o' c'),.agg [I 1,I 0,.slnil,.slnil,.slnil,I 0,I 0,tt,ff,S [],ff,I 0,ff]] (h++u) tt (h++u)/\t'.cells=[t']/\o'.cells=[o']/\c'.cells=[c']:=by obtain⟨t',o',c',u,r1,s1⟩:=aHx w ⟨[],rfl,.inr ⟨rfl,rfl⟩⟩ Zy.rm;refine⟨t',o',c',u,r1,?_,AL.cells s1.t,s1.o.cells,s1.c.cells⟩;exact(f22 s1 (aIg _ 0) (AO _) (AO _) (AO _) (λe he=>nomatch he))
theorem DU.aIh(s:DU)(hf:s.Jj=true):s.b.Jj=true:=by unfold DU.b Rk Ki;rw[if_pos hf];split<;>split<;>rfl
theorem dQ{p:Nat×Nat}:Aw (.Nr false) [.ptr (some p),.ptr (some p)]=some (.bool true):=by simp[Aw,ZM]
set_option maxHeartbeats 4000000 in
theorem tK(s:DU)(hf:s.Jj=true){av:Aa}(hv:Bx s.Ax av)(d:Int):Ev cx 3 [.agg [I s.AX,.str s.name,av,.bool s.Cb,.bool s.Kv],I d] [] λr _=>r= .bool true:=by
 have r5:=f5 s hv [];have Wr:av.cells=[av]:=AL.cells hv;unfold Ev;rw[aEC,t3];by_cases c2:XZ s
 .rw[AD c2] at r5;obtain⟨h1,h2,bi,wi,F,F2,r1,r2,w⟩:=Wb s hv c2.2.xt (by have:=c2.1;omega) [];have es:O4 s av=[tt,I s.AX,.str s.name,av,.bool s.Cb,.bool s.Kv]:=by rw[O4,hf]
  rw[es] at r1 r2;obtain⟨u,r3⟩:=f8w w s.sr;have w1:=w.HB (u:=u);obtain⟨a,o,c,t,G,wp,hc,e1⟩:=w1.p;obtain⟨a',o',c',t',G',wr,J4,e2⟩:=w1.r;have k1:=wp.sN;have k2:=wr.sN;have k3:=wp.l9;rw[s.aIh hf] at k3;have r4:=aCr s.b.ctx (h2++u);obtain⟨g1,g2,g3,ps,q1,q2,q3,wa,Hj,hl,ho⟩:=aIf (h2++u);have lm:=Zy.rm.Tq;have hk:=Ro 1;have rest:∀H:Ae,PA H (h2++u).length ((h2++u).length+2) none ps jY->∃t1 t' o' c' u',BE cx 15 [.ptr (some ((h2++u).length,0)),I 1] H (.ptr (some ((H++t1).length,0))) (H++t1++[.cells (EI (h2++u).length JL .slnil .slnil .slnil)])/\BX (H++t1++[.cells (EI (h2++u).length JL .slnil .slnil .slnil)]) (H++t1).length (h2++u).length .slnil .slnil .slnil (λi=>i∈Fi (h2++u).length ((h2++u).length+2) none ps) JL/\BX (H++t1++[.cells (EI (h2++u).length JL .slnil .slnil .slnil)]++u') (H++t1).length (h2++u).length .slnil .slnil .slnil (λi=>i∈Fi (h2++u).length ((h2++u).length+2) none ps) JL/\BE cx 17 [.ptr (some ((H++t1).length,0))] (H++t1++[.cells (EI (h2++u).length JL .slnil .slnil .slnil)]) (.agg (LL JL.OZ t' o' c')) (H++t1++[.cells (EI (h2++u).length JL .slnil .slnil .slnil)]++u')/\BE cx 18 [.agg (LL JL.OZ t' o' c'),.agg [I 1,I 0,.slnil,.slnil,.slnil,I 0,I 0,tt,ff,S [],ff,I 0,ff]] (H++t1++[.cells (EI (h2++u).length JL .slnil .slnil .slnil)]++u') tt (H++t1++[.cells (EI (h2++u).length JL .slnil .slnil .slnil)]++u')/\BE cx 19 [.ptr (some ((h2++u).length,0))] (H++t1++[.cells (EI (h2++u).length JL .slnil .slnil .slnil)]++u') (I 2) (H++t1++[.cells (EI (h2++u).length JL .slnil .slnil .slnil)]++u')/\t'.cells=[t']/\o'.cells=[o']/\c'.cells=[c']:=by intro H wH;obtain⟨t1,x1⟩:=aMW wH;have wb:=bxC wH t1;obtain⟨t',o',c',u',x2,x3,y1,y2,y3⟩:=aMX wb;have wb':=wb.HB (u:=u');obtain⟨n,m,Ip,wp'⟩:=wb'.w.pa;exact⟨t1,t',o',c',u',x1,wb,wb',x2,x3,aGq wp',y1,y2,y3⟩
  by_cases cd:d=1;·subst cd;have x3:=Zx 1 g3;have x4:=pY 1 g3 (c:=[I s.AX,.str s.name,av,.bool s.Cb,.bool s.Kv]) rfl;obtain⟨t1,t2,o2,c2',u2,z1,z2,z3,z4,z5,z6,z7,z8,z9⟩:=rest g3 wa;rw[LL] at z4 z5;have l0:=z3.l0;have l1:Bb _ none (.ptr (some ((g3++t1).length,1)))=some (I 1):=z3.l1;have l9:Bb _ none (.ptr (some ((g3++t1).length,9)))=some ff:=z3.l9;simp only[Az,Nat.reduceLeDiff,↓reduceIte,AI,Bi,r5.call,Wr,r1.call,r2.call,r3.call,k1,k2,r4.call,Bv,k3,q1.call,q2.call,q3.call,x3.call,x4.call,z1.call,z4.call,l0,l1,l9,z7,z8,z9,z5.call,z6.call,So,aCy];refine⟨λh=>absurd rfl h,λ_=>?_⟩;simp only[dQ,J6,KN];exact⟨_,rfl,rfl⟩
  .have Tg:=sy cd;obtain⟨ta,x1⟩:=cu wa lm (Ro d) Tg;have wa1:PA (g3++ta) _ _ _ _ _:=wa.CP λi hi=>Ad (wa.lt i hi);obtain⟨tb,x2⟩:=aCC wa1 lm (Ro d) Tg (c:=[I s.AX,.str s.name,av,.bool s.Cb,.bool s.Kv]) rfl;have wa2:PA (g3++ta++tb) _ _ _ _ _:=wa1.CP λi hi=>Ad (wa1.lt i hi);have x3:=Zx d (g3++ta++tb);have x4:=pY d (g3++ta++tb) (c:=[I s.AX,.str s.name,av,.bool s.Cb,.bool s.Kv]) rfl;obtain⟨t1,t2,o2,c2',u2,z1,z2,z3,z4,z5,z6,z7,z8,z9⟩:=rest _ wa2;rw[LL] at z4 z5;have l0:=z3.l0;have l1:Bb _ none (.ptr (some ((g3++ta++tb++t1).length,1)))=some (I 1):=z3.l1;have l9:Bb _ none (.ptr (some ((g3++ta++tb++t1).length,9)))=some ff:=z3.l9;simp only[Az,Nat.reduceLeDiff,↓reduceIte,AI,Bi,r5.call,Wr,r1.call,r2.call,r3.call,k1,k2,r4.call,Bv,k3,q1.call,q2.call,q3.call,cd,x1.call,x2.call,x3.call,x4.call,z1.call,z4.call,l0,l1,l9,z7,z8,z9,z5.call,z6.call,So,aCy];refine⟨λ_=>?_,λh=>absurd cd h⟩;simp only[dQ,J6,KN];exact⟨_,rfl,rfl⟩
 .rw[AA c2] at r5;simp only[Az,Bi,r5.call,Wr,So];exact⟨_,rfl,rfl⟩
theorem cw{v:Aa}(h:fR cr v):∃(s:DU) (av:Aa),s.Jj=true/\v= .agg [I s.AX,.str s.name,av,.bool s.Cb,.bool s.Kv]/\Bx s.Ax av:=by obtain⟨r,rfl,h⟩:=h;obtain⟨x3,y3,rfl,h3,h⟩:=C5 h;obtain⟨x4,y4,rfl,h4,h⟩:=C5 h;obtain⟨x5,y5,rfl,h5,h⟩:=C5 h;obtain⟨x6,y6,rfl,h6,h⟩:=C5 h;obtain⟨x7,y7,rfl,h7,h⟩:=C5 h;obtain rfl:=Ot h;obtain⟨n3,rfl,_⟩:=KI h3;obtain⟨s4,rfl⟩:=OV h4;obtain⟨v,rfl,h5⟩:=Sn h5;obtain⟨l,h5,_,_⟩:=Zw Wc h5;obtain⟨b6,rfl⟩:=Mx h6;obtain⟨b7,rfl⟩:=Mx h7;exact⟨⟨true,n3,s4,l,b6,b7⟩,v,rfl,rfl,h5⟩
theorem jZ:∀l,TU [cr,.int .i64] l->Ev cx 3 l [] λr _=>r= .bool true:=by
 rintro _ ⟨a,_,rfl,ha,b,_,rfl,hb,rfl⟩;obtain⟨s,av,hf,rfl,hv⟩:=cw ha;obtain⟨n,e,_⟩:=KI (r:=[b]) hb;obtain rfl:b= I n:=by simpa using e
 exact tK s hf hv n
end
end Go.Am
end
