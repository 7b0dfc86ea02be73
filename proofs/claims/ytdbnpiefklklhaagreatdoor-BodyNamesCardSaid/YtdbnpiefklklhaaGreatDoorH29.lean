/- Lemmas -/
import Derived.Test.YtdbnpiefklklhaaGreatDoorH28
set_option linter.all false
set_option maxRecDepth 100000
section
namespace Go.Am
open Go
section
variable{h h':Ai}{bi si:Nat}{b b':BS}{F F':Nat->Prop}{n o a:Nat}{t:DH}{av:Aa}
def aMt(w:SW h bi b F si t av)(g:Gz b (n+4*a+4) o a)(ht:t.Sm)(hv:Bb t.Au av):F9 h F 107 [Pt si 0] (.tuple []) bi (b.raw t):=by
 have u:Gz b (n+4) o a:=g.dn Ab;have g1:Gz b.CA (n+4+4*a) o a:=g.CA.dn Ab;unfold BS.raw;by_cases j:t.name=aUw;.rw[Af j];have l0:=w.Ce;obtain⟨h1,x,i,p1,d⟩:=vr w u ht hv;have w1:=w.after p1 d;have l1:=w1.Ce;obtain⟨r2,p2,e⟩:=aL6 p1 5;have f:=w1.after p2 e;have p:=f.Ce;refine⟨_,_,?_,p2,d.trans e⟩;rw[Ag,P9,pD];simp only[abS,l0,i.Ac,l1,r2,A5 j]
 rw[Ad j];by_cases k:t.name=aUA;.rw[Af k];have l0:=w.Ce;obtain⟨h1,x,i,p1,d⟩:=XT w.pb u ht hv 2;have w1:=w.after p1 d;have l1:=w1.Ce;obtain⟨r2,p2,e⟩:=vf p1 true;have f:=w1.after p2 e;have p:=f.Ce;obtain⟨v,m,l⟩:=KR p2 false;have r:=f.after m l;have l3:=r.Ce;refine⟨_,_,?_,m,(d.trans e).trans l⟩;rw[Ag,P9,pD];simp only[abS,l0,i.Ac,l1,r2,p,v,j,A5 k]
 rw[Ad k];by_cases q:t.name=aVr;.rw[Af q];have l0:=w.Ce;obtain⟨h1,x,i,p1,d⟩:=IV w.pb g;have w1:=w.after p1 d;have l1:=w1.Ce;obtain⟨h2,C,r2,p2,e⟩:=CW p1 g1;have f:=w1.after p2 e;have p:=f.Ce;obtain⟨v,m,l⟩:=KR p2 false;have r:=f.after m l;have l3:=r.Ce;obtain⟨D,E,B,z,y⟩:=XT m (g1.Bf.eq (c:={b.CA.Bf with fs:=false}) rfl rfl rfl rfl rfl) ht hv 3;have A:=r.after z y;have l4:=A.Ce;refine⟨_,_,?_,z,((d.trans e).trans l).trans y⟩;rw[Ag,P9,pD];simp only[abS,l0,i.Ac,l1,r2.Ac,p,v,l3,B.Ac,j,k,A5 q]
 rw[Ad q];by_cases s:t.name=aUS;.rw[Af s];have l0:=w.Ce;obtain⟨i,p1,d⟩:=KR w.pb false;have w1:=w.after p1 d;have l1:=w1.Ce;obtain⟨h2,C,r2,p2,e⟩:=XT p1 (u.eq (c:={b with fs:=false}) rfl rfl rfl rfl rfl) ht hv 3;have f:=w1.after p2 e;have p:=f.Ce;refine⟨_,_,?_,p2,d.trans e⟩;rw[Ag,P9,pD];simp only[abS,l0,i,l1,r2.Ac,j,k,q,A5 s]
 .rw[Ad s];have l0:=w.Ce;obtain⟨h1,x,i,p1,d⟩:=XT w.pb u ht hv 3;have w1:=w.after p1 d;have l1:=w1.Ce;refine⟨_,_,?_,p1,d⟩;rw[Ag,P9,pD];simp only[abS,l0,i.Ac,j,k,q,s]
def kY{nm:Ah}{l:List A3}{sp:Int}:(b.Fq nm l sp).mode=b.mode:=by
 unfold BS.Fq;split
 .rename_i hs;have e:∀p,(b.FY nm l sp p).mode=b.mode:=λp=>by unfold BS.FY;rw[Af hs]
  simp only[e]
 .rfl
def ZW:∀{l:List Co} {b:BS},(BS.Lq l b).2.mode=b.mode
 |[],b=>rfl
 |e::l,b=>by rw[BS.Lq];simp only;rw[ZW,kY]
def aMu(w:SW h bi b F si t av)(g:Gz b (n+4*a+4) o a)(ht:t.Sm)(hv:Bb t.Au av):F9 h F 119 [Pt si 0] (.tuple []) bi (b.TS t):=by
 have g1:Gz b (n+4+4*a) o a:=g.dn Ab;have em:(b.Bf.E4 t).mode=b.mode:=by unfold BS.E4;rw[kY];unfold BS.Bf;simp only;exact ZW
 unfold BS.TS;by_cases u:b.mode=9;.rw[Af (.inl u)];have l0:=w.Ce;obtain⟨h1,A,r,p1,f⟩:=CW w.pb g1;have w1:=w.after p1 f;have l1:=w1.Ce;obtain⟨h2,z,r2,p2,e⟩:=ES p1 g1.Bf ht hv;have j:=w1.after p2 e;have s:=j.Ce;obtain⟨q,l,d⟩:=KR p2 false;have i:=j.after l d;have l3:=i.Ce;simp only[em] at l3;obtain⟨p,k,c⟩:=Gd l 17;have m:=i.after k c;have l4:=m.Ce;refine⟨_,_,?_,k,((f.trans e).trans d).trans c⟩;rw[Ag,N0,jK];simp only[abS,l0,r.Ac,l1,r2.Ac,s,q,l3,p,A5 u]
 by_cases v:b.mode=11;.rw[Af (.inr (.inl v))];have l0:=w.Ce;obtain⟨h1,A,r,p1,f⟩:=CW w.pb g1;have w1:=w.after p1 f;have l1:=w1.Ce;obtain⟨h2,z,r2,p2,e⟩:=ES p1 g1.Bf ht hv;have j:=w1.after p2 e;have s:=j.Ce;obtain⟨q,l,d⟩:=KR p2 false;have i:=j.after l d;have l3:=i.Ce;simp only[em] at l3;obtain⟨p,k,c⟩:=Gd l 17;have m:=i.after k c;have l4:=m.Ce;refine⟨_,_,?_,k,((f.trans e).trans d).trans c⟩;rw[Ag,N0,jK];simp only[abS,l0,r.Ac,l1,r2.Ac,s,q,l3,p,u,A5 v]
 by_cases x:b.mode=13;.rw[Af (.inr (.inr (.inl x)))];have l0:=w.Ce;obtain⟨h1,A,r,p1,f⟩:=CW w.pb g1;have w1:=w.after p1 f;have l1:=w1.Ce;obtain⟨h2,z,r2,p2,e⟩:=ES p1 g1.Bf ht hv;have j:=w1.after p2 e;have s:=j.Ce;obtain⟨q,l,d⟩:=KR p2 false;have i:=j.after l d;have l3:=i.Ce;simp only[em] at l3;obtain⟨p,k,c⟩:=Gd l 17;have m:=i.after k c;have l4:=m.Ce;refine⟨_,_,?_,k,((f.trans e).trans d).trans c⟩;rw[Ag,N0,jK];simp only[abS,l0,r.Ac,l1,r2.Ac,s,q,l3,p,u,v,A5 x]
 by_cases y:b.mode=14;.rw[Af (.inr (.inr (.inr (.inl y))))];have l0:=w.Ce;obtain⟨h1,A,r,p1,f⟩:=CW w.pb g1;have w1:=w.after p1 f;have l1:=w1.Ce;obtain⟨h2,z,r2,p2,e⟩:=ES p1 g1.Bf ht hv;have j:=w1.after p2 e;have s:=j.Ce;obtain⟨q,l,d⟩:=KR p2 false;have i:=j.after l d;have l3:=i.Ce;simp only[em] at l3;obtain⟨p,k,c⟩:=Gd l 17;have m:=i.after k c;have l4:=m.Ce;refine⟨_,_,?_,k,((f.trans e).trans d).trans c⟩;rw[Ag,N0,jK];simp only[abS,l0,r.Ac,l1,r2.Ac,s,q,l3,p,u,v,x,A5 y]
 by_cases B:b.mode=15;.rw[Af (.inr (.inr (.inr (.inr B))))];have l0:=w.Ce;obtain⟨h1,A,r,p1,f⟩:=CW w.pb g1;have w1:=w.after p1 f;have l1:=w1.Ce;obtain⟨h2,z,r2,p2,e⟩:=ES p1 g1.Bf ht hv;have j:=w1.after p2 e;have s:=j.Ce;obtain⟨q,l,d⟩:=KR p2 false;have i:=j.after l d;have l3:=i.Ce;simp only[em] at l3;obtain⟨p,k,c⟩:=Gd l 17;have m:=i.after k c;have l4:=m.Ce;refine⟨_,_,?_,k,((f.trans e).trans d).trans c⟩;rw[Ag,N0,jK];simp only[abS,l0,r.Ac,l1,r2.Ac,s,q,l3,p,u,v,x,y,A5 B]
 .rw[Ad (by simp[u,v,x,y,B])];have l0:=w.Ce;obtain⟨h1,A,r,p1,f⟩:=CW w.pb g1;have w1:=w.after p1 f;have l1:=w1.Ce;obtain⟨h2,z,r2,p2,e⟩:=ES p1 g1.Bf ht hv;have j:=w1.after p2 e;have s:=j.Ce;obtain⟨q,l,d⟩:=KR p2 false;have i:=j.after l d;have l3:=i.Ce;simp only[em] at l3;obtain⟨p,k,c⟩:=Gd l 16;have m:=i.after k c;have l4:=m.Ce;refine⟨_,_,?_,k,((f.trans e).trans d).trans c⟩;rw[Ag,N0,jK];simp only[abS,l0,r.Ac,l1,r2.Ac,s,q,l3,p,u,v,x,y,B]
def aMv(w:SW h bi b F si t av)(g:Gz b (n+4*a+4) o a)(ht:t.Sm)(hv:Bb t.Au av):F9 h F 111 [Pt si 0] (.tuple []) bi (b.TT t):=by
 have g1:Gz b (n+4+4*a) o a:=g.dn Ab;unfold BS.TT;cases p:Be [aTT] (E3 b.AK) with
 |true=>rw[Af rfl];have l0:=w.Ce;have j:=kP w.pb g;have e:=aDk (E3 b.AK) aTT h;rw[p] at e;obtain⟨h1,u,i,p1,d⟩:=OA w.pb g1;have w1:=w.after p1 d;have l1:=w1.Ce;obtain⟨h2,s,r2,p2,c⟩:=CW p1 g1.KI;have f:=w1.after p2 c;have m:=f.Ce;obtain⟨v,x,r,l,k⟩:=ES p2 g1.KI.Bf ht hv;have q:=f.after l k;have l3:=q.Ce;refine⟨_,_,?_,l,(d.trans c).trans k⟩;rw[Ag,cG,N_];simp only[abS,l0,j.Ac,e.Ac,i.Ac,l1,r2.Ac,m,r.Ac]
 |false=>rw[Ad Ax];have l0:=w.Ce;have j:=kP w.pb g;have e:=aDk (E3 b.AK) aTT h;rw[p] at e;obtain⟨h1,u,i,p1,d⟩:=CW w.pb g1;have w1:=w.after p1 d;have l1:=w1.Ce;obtain⟨h2,s,r2,p2,c⟩:=ES p1 g1.Bf ht hv;have f:=w1.after p2 c;have m:=f.Ce;refine⟨_,_,?_,p2,d.trans c⟩;rw[Ag,cG,N_];simp only[abS,l0,j.Ac,e.Ac,i.Ac,l1,r2.Ac]
def aMw(w:SW h bi b F si t av)(g:Gz b (n+4) o a)(ht:t.Sm)(hv:Bb t.Au av):F9 h F 108 [Pt si 0] (.tuple []) bi (b.qC t):=by
 unfold BS.qC;cases l:b.has [aUI] with
 |true=>
  rw[Af rfl];by_cases j:t.name=[114,112];.rw[Af (.inl j)];have l0:=w.Ce;have d:=SR w g aUI;rw[l] at d;obtain⟨_,h1,m,f,p1,c⟩:=LD w.pb g aUP;have w1:=w.after p1 c;have l1:=w1.Ce;obtain⟨h2,q,r2,p2,e⟩:=ES p1 (g.Js Cs) ht hv;have i:=w1.after p2 e;have p:=i.Ce;refine⟨_,_,?_,p2,c.trans e⟩;rw[Ag,Ss,cz];simp only[abS,l0,d.Ac,f.Ac,l1,r2.Ac,A5 j]
  by_cases k:t.name=[114,116];.rw[Af (.inr k)];have l0:=w.Ce;have d:=SR w g aUI;rw[l] at d;obtain⟨_,h1,m,f,p1,c⟩:=LD w.pb g aUP;have w1:=w.after p1 c;have l1:=w1.Ce;obtain⟨h2,q,r2,p2,e⟩:=ES p1 (g.Js Cs) ht hv;have i:=w1.after p2 e;have p:=i.Ce;refine⟨_,_,?_,p2,c.trans e⟩;rw[Ag,Ss,cz];simp only[abS,l0,d.Ac,f.Ac,l1,r2.Ac,j,A5 k]
  .rw[Ad (by simp[j,k])];have l0:=w.Ce;have d:=SR w g aUI;rw[l] at d;obtain⟨_,h1,m,f,p1,c⟩:=LD w.pb g [];have w1:=w.after p1 c;have l1:=w1.Ce;obtain⟨h2,q,r2,p2,e⟩:=ES p1 (g.Js Cs) ht hv;have i:=w1.after p2 e;have p:=i.Ce;refine⟨_,_,?_,p2,c.trans e⟩;rw[Ag,Ss,cz];simp only[abS,l0,d.Ac,f.Ac,l1,r2.Ac,j,k]
 |false=>rw[Ad Ax];have l0:=w.Ce;have d:=SR w g aUI;rw[l] at d;obtain⟨h1,m,f,p1,c⟩:=ES w.pb g ht hv;have w1:=w.after p1 c;have l1:=w1.Ce;refine⟨_,_,?_,p1,c⟩;rw[Ag,Ss,cz];simp only[abS,l0,d.Ac,f.Ac]
def aMx(w:SW h bi b F si t av)(g:Gz b (n+4*a+4) o a)(ht:t.Sm)(hv:Bb t.Au av):F9 h F 109 [Pt si 0] (.tuple []) bi (b.N9 t):=by
 have g1:Gz b (n+4+4*a) o a:=g.dn Ab;unfold BS.N9;dsimp only;by_cases k:t.name=aU4
 .rw[Af k];cases c:t.sc with
  |true=>rw[Af rfl];have l0:=w.Ce;rw[c] at l0;obtain⟨h1,s,j,p1,e⟩:=CW w.pb g1;have w1:=w.after p1 e;have l1:=w1.Ce;rw[c] at l1;obtain⟨h2,r,r2,p2,d⟩:=eE p1 g1.Bf ht hv 3;have i:=w1.after p2 d;have f:=i.Ce;rw[c] at f;obtain⟨u,v,q,m,l⟩:=OA p2 (g1.Bf.MI ht.Au ht.name);have p:=i.after m l;have l3:=p.Ce;refine⟨_,_,?_,m,(e.trans d).trans l⟩;rw[Ag,Su,t109];simp only[abS,l0,j.Ac,l1,r2.Ac,f,q.Ac,A5 k]
  |false=>rw[Ad Ax];have l0:=w.Ce;rw[c] at l0;obtain⟨h1,s,j,p1,e⟩:=CW w.pb g1;have w1:=w.after p1 e;have l1:=w1.Ce;rw[c] at l1;obtain⟨h2,r,r2,p2,d⟩:=eE p1 g1.Bf ht hv 3;have i:=w1.after p2 d;have f:=i.Ce;rw[c] at f;refine⟨_,_,?_,p2,e.trans d⟩;rw[Ag,Su,t109];simp only[abS,l0,j.Ac,l1,r2.Ac,f,A5 k]
 .rw[Ad k];cases c:t.sc with
  |true=>rw[Af rfl];have l0:=w.Ce;rw[c] at l0;obtain⟨h1,s,j,p1,e⟩:=CW w.pb g1;have w1:=w.after p1 e;have l1:=w1.Ce;rw[c] at l1;obtain⟨h2,r,r2,p2,d⟩:=eE p1 g1.Bf ht hv 2;have i:=w1.after p2 d;have f:=i.Ce;rw[c] at f;obtain⟨u,v,q,m,l⟩:=OA p2 (g1.Bf.MI ht.Au ht.name);have p:=i.after m l;have l3:=p.Ce;refine⟨_,_,?_,m,(e.trans d).trans l⟩;rw[Ag,Su,t109];simp only[abS,l0,j.Ac,l1,r2.Ac,f,q.Ac,k]
  |false=>rw[Ad Ax];have l0:=w.Ce;rw[c] at l0;obtain⟨h1,s,j,p1,e⟩:=CW w.pb g1;have w1:=w.after p1 e;have l1:=w1.Ce;rw[c] at l1;obtain⟨h2,r,r2,p2,d⟩:=eE p1 g1.Bf ht hv 2;have i:=w1.after p2 d;have f:=i.Ce;rw[c] at f;refine⟨_,_,?_,p2,e.trans d⟩;rw[Ag,Su,t109];simp only[abS,l0,j.Ac,l1,r2.Ac,f,k]
def aMy(w:SW h bi b F si t av)(g:Gz b (n+1000) o a)(ht:t.Sm)(hv:Bb t.Au av):F9 h F 112 [Pt si 0] (.tuple []) bi (b.Rn t):=by
 unfold BS.Rn;by_cases j:b.W9;.rw[Af (.inl j)];have l0:=w.Ce;have d:=Rp w.pb g;rw[Al j] at d;refine⟨_,_,?_,w.pb,.refl⟩;rw[Ag,Qa,pE];simp only[abS,l0,d.Ac]
 by_cases m:b.AK=[];.rw[Af (.inr m)];have l0:=w.Ce;have d:=Rp w.pb g;rw[Ak j] at d;have i:=XW w.pb;refine⟨_,_,?_,w.pb,.refl⟩;rw[Ag,Qa,pE];simp only[Cf,bK,l0,d.Ac,i.Ac,show((b.AK.length:Int)=0)=True from A5 (by rw[m];rfl)]
 have ł:¬(b.AK.length:Int)=0:=λe=>m (CO Ab);rw[Ad (by simp[j,m])];by_cases l:t.name=aTA;.rw[Af l];have l0:=w.Ce;have d:=Rp w.pb g;rw[Ak j] at d;have i:=XW w.pb;have f:=ù w.pb 0;obtain⟨h1,x,p,p1,k⟩:=yK w.pb g ht hv (DJ b.AK 0).node;have w1:=w.after p1 k;have l1:=w1.Ce;refine⟨_,_,?_,p1,k⟩;rw[Ag,Qa,pE];simp only[abS,l0,d.Ac,i.Ac,f.Ac,p.Ac,ł,A5 l,UF,Dl]
 rw[Ad l];cases r:b.Ld with
 |true=>rw[Af rfl];have l0:=w.Ce;have d:=Rp w.pb g;rw[Ak j] at d;have i:=XW w.pb;have f:=vu w;rw[r] at f;obtain⟨p,p1,k⟩:=KR w.pb false;have w1:=w.after p1 k;have l1:=w1.Ce;obtain⟨h2,v,r2,p2,q⟩:=yK p1 (g.eq (c:={b with fs:=false}) rfl rfl rfl rfl rfl) ht hv (DJ b.AK 1).node;have s:=w1.after p2 q;have u:=s.Ce;refine⟨_,_,?_,p2,k.trans q⟩;rw[Ag,Qa,pE];simp only[abS,l0,d.Ac,i.Ac,f.Ac,p,l1,r2.Ac,ł,l]
 |false=>rw[Ad Ax];have l0:=w.Ce;have d:=Rp w.pb g;rw[Ak j] at d;have i:=XW w.pb;have f:=vu w;rw[r] at f;refine⟨_,_,?_,w.pb,.refl⟩;rw[Ag,Qa,pE];simp only[abS,l0,d.Ac,i.Ac,f.Ac,ł,l]
def aMz(w:SW h bi b F si t av)(g:Gz b (n+4*a+5) o a)(ht:t.Sm):F9 h F 37 [Pt si 0] (.tuple []) bi (b.PD t):=by
 have g1:Gz b (n+5+4*a) o a:=g.dn Ab;unfold BS.PD;by_cases f:t.r=0;.rw[Af f];have l0:=w.Ce;refine⟨_,_,?_,w.pb,.refl⟩;rw[Ag,cC,t37];simp only[abS,l0,A5 f]
 rw[Ad f];dsimp only;by_cases j:t.ID;.rw[Af j];have l0:=w.Ce;obtain⟨h1,v,k,p1,d⟩:=CW w.pb g1;have w1:=w.after p1 d;have l1:=w1.Ce;obtain⟨h2,u,r2,p2,c⟩:=XS p1 g1.Bf ht.r;have i:=w1.after p2 c;have l:=i.Ce;have e:=SP t av h2;rw[Al j] at e;refine⟨_,_,?_,p2,d.trans c⟩;rw[Ag,cC,t37];simp only[abS,l0,k.Ac,l1,r2.Ac,l,e.Ac,f]
 .rw[Ad j];have l0:=w.Ce;obtain⟨h1,v,k,p1,d⟩:=CW w.pb g1;have w1:=w.after p1 d;have l1:=w1.Ce;obtain⟨h2,u,r2,p2,c⟩:=XS p1 g1.Bf ht.r;have i:=w1.after p2 c;have l:=i.Ce;have e:=SP t av h2;rw[Ak j] at e;obtain⟨s,p,m⟩:=KR p2 false;have q:=i.after p m;have l3:=q.Ce;refine⟨_,_,?_,p,(d.trans c).trans m⟩;rw[Ag,cC,t37];simp only[abS,l0,k.Ac,l1,r2.Ac,l,e.Ac,s,f]
def aHw(w:SW h bi b F si t av)(g:Gz b n o a):F9 h F 124 [Pt si 0] (.tuple []) bi (b.JO t):=by
 unfold BS.JO;cases e:b.has [t.name] with
 |true=>rw[Af rfl];have l0:=w.Ce;have c:=SR w g t.name;rw[e] at c;obtain⟨h1,i,f,p1,d⟩:=eL w g t.name [];have w1:=w.after p1 d;have l1:=w1.Ce;refine⟨_,_,?_,p1,d⟩;rw[Ag,cM,T_];simp only[Cf,l0,c.Ac,f.Ac]
 |false=>rw[Ad Ax];have l0:=w.Ce;have c:=SR w g t.name;rw[e] at c;refine⟨_,_,?_,w.pb,.refl⟩;rw[Ag,cM,T_];simp only[Cf,l0,c.Ac]
def aMA(w:SW h bi b F si t av)(g:Gz b n o a):F9 h F 127 [Pt si 0] (.tuple []) bi (b.Qf t):=by
 unfold BS.Qf;cases f:b.has [t.name] with
 |true=>rw[Af rfl];have l0:=w.Ce;have c:=SR w g t.name;rw[f] at c;obtain⟨h1,m,j,p1,e⟩:=eL w g t.name [];have w1:=w.after p1 e;have l1:=w1.Ce;obtain⟨_,h2,l,r2,p2,d⟩:=yL p1 g.EE;have i:=w1.after p2 d;have k:=i.Ce;refine⟨_,_,?_,p2,e.trans d⟩;rw[Ag,cO,t127];simp only[abS,l0,c.Ac,j.Ac,l1,r2.Ac]
 |false=>rw[Ad Ax];have l0:=w.Ce;have c:=SR w g t.name;rw[f] at c;refine⟨_,_,?_,w.pb,.refl⟩;rw[Ag,cO,t127];simp only[Cf,l0,c.Ac]
def aMB(w:SW h bi b F si t av)(g:Gz b n o a):F9 h F 126 [Pt si 0] (.tuple []) bi b.Oa:=by
 have d:Ew h F (h++[.DF]) F:=⟨Ax,λi hi _=>An hi,λ_ hf=> .inl hf⟩;have j:=vg aDn h;have w:=w.after w.pb.JX d;unfold BS.Oa;have c:=SO w.pb g 1 (CP (ws:=CT)) AM;have e0:b.Oz 1 (Be CT)=b.has CT:=rfl;rw[e0] at c;cases k:b.has CT with
 |true=>rw[k] at c;rw[Af rfl];have l0:=w.Ce;obtain⟨_,h1,r,m,p1,f⟩:=LD w.pb g [];have w1:=w.after p1 f;have l1:=w1.Ce;obtain⟨_,h2,q,r2,p2,e⟩:=eF p1 (g.Js Cs) (CP (ws:=CT)) AM;have l:=w1.after p2 e;have p:=l.Ce;refine⟨_,_,?_,p2,d.trans (f.trans e)⟩;rw[Ag,cN,U_];simp only[abS,j.Ac,l0,c.Ac,m.Ac,l1,r2.Ac]
 |false=>rw[k] at c;rw[Ad Ax];have l0:=w.Ce;refine⟨_,_,?_,w.pb,d⟩;rw[Ag,cN,U_];simp only[abS,j.Ac,l0,c.Ac]
def aHx(w:SW h bi b F si t av)(g:Gz b n o a):F9 h F 123 [Pt si 0] (.bool (b.SM t).2) bi (b.SM t).1:=by
 unfold BS.SM;cases e:b.has [aTF] with
 |true=>rw[Af rfl];have l0:=w.Ce;have c:=SR w g aTF;rw[e] at c;obtain⟨f,p1,d⟩:=Gd w.pb 19;have w1:=w.after p1 d;have l1:=w1.Ce;refine⟨_,_,?_,p1,d⟩;rw[Ag,cL,S_];simp only[abS,l0,c.Ac,f,l1]
 |false=>rw[Ad Ax];have l0:=w.Ce;have c:=SR w g aTF;rw[e] at c;refine⟨_,_,?_,w.pb,.refl⟩;rw[Ag,cL,S_];simp only[abS,l0,c.Ac]
def aMC(w:SW h bi b F si t av)(g:Gz b n o a):F9 h F 129 [Pt si 0] (.tuple []) bi (b.Vz t):=by
 unfold BS.Vz;by_cases f:b.W9;.rw[Af f];have l0:=w.Ce;have d:=Rp w.pb g;rw[Al f] at d;obtain⟨h1,z,e,p1,c⟩:=aHw w g;have w1:=w.after p1 c;have l1:=w1.Ce;refine⟨_,_,?_,p1,c⟩;rw[Ag,Sw,da];simp only[abS,l0,d.Ac,e.Ac]
 rw[Ad f];have g1:Gz {b with HP:=0} n o a:=g.eq rfl rfl rfl rfl rfl;by_cases j:b.HP=0;.rw[Ad (by simp[j])];have l0:=w.Ce;have d:=Rp w.pb g;rw[Ak f] at d;obtain⟨e,p1,c⟩:=eH w.pb 0;have w1:=w.after p1 c;have l1:=w1.Ce;refine⟨_,_,?_,p1,c⟩;rw[Ag,Sw,da];simp only[abS,l0,d.Ac,e,l1,A5 j,Cy]
 cases q:b.Oz 1 (BQ b.HP) with
 |true=>rw[Af ⟨j,rfl⟩];have l0:=w.Ce;have d:=Rp w.pb g;rw[Ak f] at d;obtain⟨e,p1,c⟩:=eH w.pb 0;have w1:=w.after p1 c;have l1:=w1.Ce;have i:=kO p1 g1 1 b.HP;rw[show({b with HP:=0}:BS).Oz 1 (BQ b.HP)=true from q] at i;obtain⟨_,h2,y,r2,p2,l⟩:=LD p1 g1 [];have m:=w1.after p2 l;have u:=m.Ce;obtain⟨_,v,x,s,p,k⟩:=XV p2 (g1.Js (lo:=DT (Eu []) Db b.AK) Cs) b.HP;have r:=m.after p k;have l3:=r.Ce;refine⟨_,_,?_,p,(c.trans l).trans k⟩;rw[Ag,Sw,da];simp only[abS,l0,d.Ac,e,l1,r2.Ac,u,s.Ac,j,Cy,i.Ac]
 |false=>rw[Ad Ax];have l0:=w.Ce;have d:=Rp w.pb g;rw[Ak f] at d;obtain⟨e,p1,c⟩:=eH w.pb 0;have w1:=w.after p1 c;have l1:=w1.Ce;have i:=kO p1 g1 1 b.HP;rw[show({b with HP:=0}:BS).Oz 1 (BQ b.HP)=false from q] at i;refine⟨_,_,?_,p1,c⟩;rw[Ag,Sw,da];simp only[abS,l0,d.Ac,e,l1,j,Cy,i.Ac]
def aHy(w:SW h bi b F si t av)(g:Gz b (n+1004) o a)(ht:t.Sm)(hv:Bb t.Au av)(f:¬t.st [aTA]):F9 h F 98 [Pt si 0] (.bool (b.EJ t).2) bi (b.EJ t).1:=by have l0:=w.Ce;obtain⟨h1,i,d,p1,c⟩:=eK w.pb g ht hv (λe=>absurd e f);have w1:=w.after p1 c;have l1:=w1.Ce;refine⟨_,_,?_,p1,c⟩;rw[Ag,q_,t98];simp only[abS,l0,d.Ac]
def aMD(w:SW h bi b F si t av)(g:Gz b (n+8*(4*(o+8)+10)) o a):F9 h F 125 [Pt si 0] (.tuple []) bi (b.DK t.name):=by have l0:=w.Ce;obtain⟨h1,e,d,p1,c⟩:=XU w.pb g t.name;have w1:=w.after p1 c;have l1:=w1.Ce;refine⟨_,_,?_,p1,c⟩;rw[Ag,tU,aA0];simp only[abS,l0,d.Ac]
def aME(x:Aa):B9 cx 106 [x] h ff h:=by rw[Ag,tQ,aAW];simp only[Cf]
def aMF(w:SW h bi b F si t av)(g:Gz b (n+4) o a):F9 h F 128 [Pt si 0] (.tuple []) bi (b.Ob t):=by
 unfold BS.Ob;dsimp only;by_cases e:t.name=[112]
 .rw[Af e,Af e];have c:=SO w.pb g 3 (CP (ws:=[t.name])) Ax;cases f:b.Oz 3 (Be [t.name]) with
  |true=>rw[f] at c;rw[Af rfl];have l0:=w.Ce;obtain⟨h1,k,i,p1,d⟩:=eL w g t.name t.name;have w1:=w.after p1 d;have l1:=w1.Ce;refine⟨_,_,?_,p1,d⟩;rw[Ag,N1,jL];simp only[abS,l0,i.Ac,A5 e,c.Ac,kU]
  |false=>rw[f] at c;rw[Ad Ax];have l0:=w.Ce;have p:=vh [112] h;obtain⟨h1,k,i,p1,d⟩:=ES (t:=MV [112]) (av:= .slnil) w.pb g (Lu AM) (.inr ⟨rfl,rfl⟩);have w1:=w.after p1 d;have l1:=w1.Ce;obtain⟨h2,r,r2,p2,l⟩:=eL w1 (g.MI (Lu AM).Au (Lu AM).name) t.name t.name;have m:=w1.after p2 l;have q:=m.Ce;refine⟨_,_,?_,p2,d.trans l⟩;rw[Ag,N1,jL];simp only[abS,l0,p.Ac,i.Ac,r2.Ac,A5 e,c.Ac,kU,Cy,Dl]
 rw[Ad e,Ad e];by_cases j:t.name=[108,105]
 .rw[Af j];have c:=SO w.pb g 2 (CP (ws:=[t.name])) Ax;cases f:b.Oz 2 (Be [t.name]) with
  |true=>rw[f] at c;rw[Af rfl];have l0:=w.Ce;obtain⟨h1,k,i,p1,d⟩:=eL w g t.name t.name;have w1:=w.after p1 d;have l1:=w1.Ce;refine⟨_,_,?_,p1,d⟩;rw[Ag,N1,jL];simp only[abS,l0,i.Ac,e,A5 j,c.Ac,kU]
  |false=>rw[f] at c;rw[Ad Ax];have l0:=w.Ce;refine⟨_,_,?_,w.pb,.refl⟩;rw[Ag,N1,jL];simp only[abS,l0,eq_false e,c.Ac,A5 j,kU,Cy]
 .rw[Ad j];have c:=SO w.pb g 1 (CP (ws:=[t.name])) Ax;cases f:b.Oz 1 (Be [t.name]) with
  |true=>rw[f] at c;rw[Af rfl];have l0:=w.Ce;obtain⟨h1,k,i,p1,d⟩:=eL w g t.name t.name;have w1:=w.after p1 d;have l1:=w1.Ce;refine⟨_,_,?_,p1,d⟩;rw[Ag,N1,jL];simp only[abS,l0,i.Ac,e,j,c.Ac,kU]
  |false=>rw[f] at c;rw[Ad Ax];have l0:=w.Ce;refine⟨_,_,?_,w.pb,.refl⟩;rw[Ag,N1,jL];simp only[abS,l0,e,c.Ac,j,kU,Cy]
def SW.aDp(w:SW h bi b F si t av)(t':DH)(eB:Aa):CL h 12 (Pt si 1) (.agg (B1 t' eB))=some (h.set si (.cells (Pt bi 0::B1 t' eB)))/\SW (h.set si (.cells (Pt bi 0::B1 t' eB))) bi b F si t' eB/\Ew h (λi=>F i\/i=si) (h.set si (.cells (Pt bi 0::B1 t' eB))) (λi=>F i\/i=si):=by
 have hl:=(Aj.1 w.sc).1;refine⟨by simp only[CL,w.sc];rfl,⟨w.pb.DQ λi hi=>?_,by rw[AE hl],w.no⟩,⟨Ax,λi _ hn=>?_,λ_ h=> .inl h⟩⟩;.exact Ao λe=>w.no (by rw[show si=i from e];exact hi)
 .exact Ao λe=>hn (.inr (show i=si from e.symm))
def aMG(w:SW h bi b F si t av)(g:Gz b (n+4*a+4) o a):vt h F si 130 [Pt si 0] (.tuple []) bi (b.empty (MV [98,114])):=by have f:=vh [98,114] h;obtain⟨s0,w,d⟩:=w.aDp (MV [98,114]) .slnil;obtain⟨h1,i,e,p1,c⟩:=aHv w g (Lu AM) (.inr ⟨rfl,rfl⟩);refine⟨h1,i,?_,p1,d.trans c⟩;rw[Ag,tV,aA1];simp only[Cf,f.Ac,s0,e.Ac]
def aHz{c n:Nat}{m:Option Nat}{ps:List PN}{A:Ar}{e x:Int}(w:PA h c n m ps A)(j:Mh A)(ok:EZ A e)(hx:A.has x):
  ∃h' Mi,B9 cx 200 [Pt c 0,I x] h (I 0) h'/\PA h' c n m Mi (A.cut x)/\Ew h (λi=>i∈Fu c n m ps) h' (λi=>i∈Fu c n m Mi):=by
 have d:=Rk (x:=x) w;rw[Af hx] at d;obtain⟨h1,Yz,g,w1,f⟩:=Ĺ w j ok hx;refine⟨h1,Yz,?_,w1,f⟩;rw[Ag,vO,aBK];simp only[abS,Gk,d.Ac,g.Ac,Cy]
def aHA(w:PB h bi b F)(g:Gz b n o a){x:Int}(hx:b.a.has x):∃d,Bj h none (Pt bi 0)=some (Pt d 0)/\F9 h F 200 [Pt d 0,I x] (I 0) bi {b with a:=b.a.cut x}:=by
 obtain⟨d,i,c,tt,G,w,hc,rfl⟩:=w;obtain⟨h',j,r,w',x'⟩:=w.step (R:=λh'=>B9 cx 200 [Pt d 0,I x] h (I 0) h') λn m ps f=>by obtain⟨h1,Yz,r,w1,e⟩:=aHz f g.rm.UZ g.ok.ok hx;exact⟨h1,n,m,Yz,r,w1,e⟩
 exact⟨d,w.l0,h',_,r,⟨d,i,c,tt,j,w',hc,rfl⟩,x'⟩
def aMH(w:SW h bi b F si t av)(g:Gz b (n+4) o a)(ht:t.Sm)(hv:Bb t.Au av):F9 h F 113 [Pt si 0] (.tuple []) bi (b.Kl t):=by
 unfold BS.Kl;cases e:b.Ld with
 |false=>rw[Af (.inl rfl)];have l0:=w.Ce;have c:=vu w;rw[e] at c;refine⟨_,_,?_,w.pb,.refl⟩;rw[Ag,Vr,rk];simp only[abS,l0,c.Ac]
 |true=>
 rcases Bool.eq_false_or_eq_true b.fs with l|l
 rotate_left;.rw[Af (.inr l)];have l0:=w.Ce;have c:=vu w;rw[e] at c;rw[l] at l0;refine⟨_,_,?_,w.pb,.refl⟩;rw[Ag,Vr,rk];simp only[abS,l0,c.Ac]
 .rw[Ad (by simp[l])];have hi:=g.ok.op _ (UD e);have l0:=w.Ce;rw[l] at l0;have c:=vu w;rw[e] at c;obtain⟨I,E,h1,u,C,p1,v⟩:=aHA w.pb g hi.1;have w1:=w.after p1 v;have g1:Gz {b with a:=b.a.cut (DJ b.AK 1).node} (n+4) o a:=⟨g.ok.I8 (bW g.ok.ok hi.1 (by rw[hi.2.1];decide)) oP,g.rm.I8 kN,g.AK,g.AZ⟩;have aR4:2<=b.AK.length:=by unfold BS.Ld at e;simp only[AN,B0] at e;exact e.1
  have O5:Ev cx 113 [Pt si 0] h λr h'=>r= .tuple []/\∃F',PB h' bi {({b with a:=b.a.cut (DJ b.AK 1).node,AK:=b.AK.take 1}:BS).E4 t with mode:=20} F'/\Ew h F h' F':=by
   unfold Ev;rw[Vr,rk];simp only[abS,l0,c.Ac,E,C.Ac];refine En (i:=0) (λn:Nat=>[]) (λn h2=>1<=n/\n<=b.AK.length/\∃d,PB h2 bi {b with a:=b.a.cut (DJ b.AK 1).node,AK:=b.AK.take n} d/\Ew h1 u h2 d) (λn=>n) (λn h2=>∃d,PB h2 bi {b with a:=b.a.cut (DJ b.AK 1).node,AK:=b.AK.take 1} d/\Ew h1 u h2 d) b.AK.length rfl ⟨Ab,Ae _,u,by rw[BW];exact p1,.refl⟩ ?_ ?_
   .rintro j h2 ⟨RP,hn,d,p2,f⟩;have p:=w1.after p2 f;have q:=p.Ce;have ln:=XW p2;have x:(b.AK.take j).length=j:=by rw[AB];omega
    simp only[x] at ln;have g2:Gz {b with a:=b.a.cut (DJ b.AK 1).node,AK:=b.AK.take j} (n+4) (o+1) a:=(g1.le Ab Ab (Ae _)).Js (Cl _ _);by_cases hk:j=1;.subst hk;simp only[abS,q,ln.Ac,(AM:¬(1:Int)<((1:Nat):Int))];exact .HM 1 rfl ⟨d,p2,f⟩
    .obtain⟨G,y,s,k,m⟩:=OA p2 g2;have H:({b with a:=b.a.cut (DJ b.AK 1).node,AK:=b.AK.take j}:BS).KI={b with a:=b.a.cut (DJ b.AK 1).node,AK:=b.AK.take (j-1)}:=by unfold BS.KI;simp only[x];rw[Ad Ab,FV,CE Ab]
     rw[H] at k;simp only[abS,q,ln.Ac,(Ab:(1:Int)<(j:Int)),s.Ac];exact .next (j-1) rfl ⟨Ab,Ab,y,k,f.trans m⟩ Ab
   .rintro j h2 ⟨d,p2,f⟩;have p:=w1.after p2 f;have q:=p.Ce;have g2:Gz {b with a:=b.a.cut (DJ b.AK 1).node,AK:=b.AK.take 1} (n+4) o a:=g1.Js (Cl _ _);obtain⟨G,y,s,k,m⟩:=ES p2 g2 ht hv;have A:=p.after k m;have l3:=A.Ce;obtain⟨B,D,z⟩:=Gd k 20;simp only[abS,q,s.Ac,l3,B];exact⟨_,rfl,rfl,_,D,((v.trans f).trans m).trans z⟩
  obtain⟨r,h',hr,rfl,F',hp,hx⟩:=O5.ret;exact⟨h',F',hr,hp,hx⟩
end
def kr(p:Ah×Aa):Aa×Aa:=(.str p.1,p.2)
def kf(s:Ah):List (Ah×Aa)->Option Aa
 |[]=>none
 |(t,v)::l=>if s=t then some v else kf s l
def kp(s:Ah)(v:Aa):List (Ah×Aa)->List (Ah×Aa)
 |[]=>[(s,v)]
 |(t,u)::l=>if s=t then(s,v)::l else(t,u)::kp s v l
def Ņ{s t:Ah}{v:Aa}:∀{l:List (Ah×Aa)},kf t (kp s v l)=if t=s then some v else kf t l
 |[]=>rfl
 |(x,u)::l=>by
  unfold kp;by_cases h:s=x;.rw[Af h];unfold kf;subst h;split<;>rfl
  .rw[Ad h];unfold kf;rw[Ņ];by_cases h1:t=x;.subst h1;rw[Af rfl,Af rfl,Ad (Dx h)]
   .rw[Ad h1,Ad h1]
def kZ{s:Ah}:∀{l:List (Ah×Aa)},RA s (l.map kr)=some (kf s l)
 |[]=>rfl
 |(x,u)::l=>by
  simp only[A9,kr,RA,kf];split;.rfl
  .exact kZ
def yT{s:Ah}{v:Aa}:∀{l:List (Ah×Aa)},MY s v (l.map kr)=some ((kp s v l).map kr)
 |[]=>rfl
 |(x,u)::l=>by
  simp only[A9,kr,MY,kp];split;.rfl
  .rw[show(List.map kr l)=l.map kr from rfl,yT];rfl
def ZX{s:Ah}:∀{l:List (Ah×Aa)} {i:Nat},kf s l=none->QM s (l.map kr) i=some none
 |[],_,_=>rfl
 |(x,u)::l,i,h=>by
  unfold kf at h;by_cases e:s=x;.rw[Af e] at h;cases h
  .rw[Ad e] at h;simp only[A9,kr,QM,Ad e];exact ZX h
def vw{s t:Ah}{v:Aa}:∀{l:List (Ah×Aa)},kf s l=none->kf t (l++[(s,v)])=if t=s then some v else kf t l
 |[],_=>rfl
 |(x,u)::l,h=>by
  unfold kf at h;by_cases e:s=x;.rw[Af e] at h;cases h
  .rw[Ad e] at h;simp only[CJ,kf];rw[vw h];by_cases a:t=x;.subst a;rw[Af rfl,Af rfl,Ad (Dx e)]
   .rw[Ad a,Ad a]
def KM(h:Ai)(id:Nat)(d:Ah->Option Aa):Prop:=∃l,h[id]?=some (.map (l.map kr))/\∀s,kf s l=d s
def Fr(id:Nat)(h h':Ai):Prop:=h.length<=h'.length/\∀i,i<h.length->i≠id->h'[i]?=h[i]?
def Fr.refl{id:Nat}{h:Ai}:Fr id h h:=⟨Ae _,λ_ _ _=>rfl⟩
def Fr.trans{id:Nat}{h h1 h2:Ai}(a:Fr id h h1)(b:Fr id h1 h2):Fr id h h2:=⟨Bp a.1 b.1,λi hi hn=>(b.2 i (IH hi a.1) hn).trans (a.2 i hi hn)⟩
def Fr.set{id:Nat}{h:Ai}{o:ED}:Fr id h (h.set id o):=⟨Ax,λi _ hn=>Ao (Dx hn)⟩
def Fr.JX{id:Nat}{h u:Ai}:Fr id h (h++u):=⟨Ax,λi hi _=>An hi⟩
section
variable{h:Ai}{id:Nat}{d:Ah->Option Aa}{s:Ah}{v:Aa}
def KM.lt(w:KM h id d):id<h.length:=let⟨_,hl,_⟩:=w;(Aj.1 hl).1
def KM.JX{u:Ai}(w:KM h id d):KM (h++u) id d:=let⟨l,hl,hd⟩:=w;⟨l,by rw[An w.lt];exact hl,hd⟩
def KM.set(w:KM h id d)(s:Ah)(v:Aa):∃h1,Qq h (.map (some id)) (.str s) v=some h1/\KM h1 id (λt=>if t=s then some v else d t)/\Fr id h h1:=by have hlt:=w.lt;obtain⟨l,hl,hd⟩:=w;refine⟨h.set id (.map ((kp s v l).map kr)),by simp only[Qq,hl,yT,By],⟨kp s v l,by rw[AE hlt],λt=>?_⟩,.set⟩;rw[Ņ];simp only[hd]
def KM.get(w:KM h id d)(s:Ah):Oj h .nilFunc false (.map (some id)) (.str s)=some ((d s).getD .nilFunc):=by obtain⟨l,hl,hd⟩:=w;simp only[Oj,S9,hl,kZ,By,hd];cases d s<;>rfl
def KM.entry(w:KM h id d)(s:Ah)(hs:d s=none)(v:Aa):∃h0 h1 n v0,DS (.VB .nilFunc) h [.map (some id),.str s]=some (h0,.tuple [v0,I n])/\DS .J5 h0 [.map (some id),I n,v]=some (h1,.bool true)/\KM h1 id (λt=>if t=s then some v else d t)/\Fr id h h1:=by
 have hlt:=w.lt;obtain⟨l,hl,hd⟩:=w;have h0:kf s l=none:=(hd s).trans hs;refine⟨h.set id (.map (l.map kr++[(.str s,.nilFunc)])),h.set id (.map ((l++[(s,v)]).map kr)),(l.map kr).length,.nilFunc,?_,?_,⟨l++[(s,v)],by rw[AE hlt],λt=>?_⟩,.set⟩;.simp only[DS,Vf,hl,ZX h0,By]
 .simp only[DS,RC,AE hlt,BD,Int.natCast_nonneg,BE,BI (Ae _),Dy,Im,lL,B5 _ _ (Ae _),eS,BU,A9,Dw,kr]
 .rw[vw h0];simp only[hd]
def lk:List (List Ah×Aa)->Ah->Option Aa
 |[],_=>none
 |(ws,v)::l,s=>if s∈ws then some v else lk l s
def KM.eq{a:Ah->Option Aa}(w:KM h id d)(e:∀s,d s=a s):KM h id a:=let⟨l,hl,hd⟩:=w;⟨l,hl,λs=>(hd s).trans (e s)⟩
def KM.push{L:List (List Ah×Aa)}(w:KM h id (λt=>if t=s then some v else lk L t)):KM h id (lk (([s],v)::L)):=w.eq λt=>by simp only[lk,Bd]
def Od{l:Ah}{ws:List Ah}{L:List (List Ah×Aa)}(x:JZ l ws)(w:KM h id (lk L))(fv:Aa):∃h1,B9 cx 97 [.map (some id),.str l,fv] h (.tuple []) h1/\KM h1 id (lk ((ws,fv)::L))/\Fr id h h1:=by
 have hf:=x.few;have O5:Ev cx 97 [.map (some id),.str l,fv] h λr h1=>r= .tuple []/\KM h1 id (lk ((ws,fv)::L))/\Fr id h h1:=by
  unfold Ev;rw[qz,t97];have hv:HN ws (.sl 1 (ws.map Ca)):=CP;have hl:(ws.map Ca).length=ws.length:=Av ..;simp only[Cf,(vg x h).Ac,Bv.F0 hv];refine En (i:=0) (λn:Nat=>[I (n:Int)]) (λn h1=>n<=ws.length/\KM h1 id (λs=>if s∈ws.take n then some fv else lk L s)/\Fr id h h1) (λn=>ws.length-n) (λn h1=>KM h1 id (lk ((ws,fv)::L))/\Fr id h h1) 0 rfl ⟨A7 _,w.JX.eq λs=>Ax,.JX⟩ ?_ ?_
  .rintro n h1 ⟨hn,a,f1⟩;by_cases hlt:n<ws.length
   .have f:(ws.map Ca)[n]'(by rw[hl];exact hlt)=[.str ws[n]]:=by simp[Ca]
    obtain⟨h2,c,e,f2⟩:=a.set ws[n] fv;simp only[Cf,bK,(Ab:(n:Int)<(ws.length:Int)),Bv.FA hv (show n<(ws.map Ca).length by rw[hl];exact hlt),f,c,CI (Ab:n<9223372036854775807)];exact .next (n+1) rfl ⟨hlt,e.eq λs=>by
     simp only[AQ hlt,Ap,Bd];by_cases b:s=ws[n];.simp[b]
     .simp[b],f1.trans f2⟩ Ab
   .simp only[abS,(Ab:¬(n:Int)<(ws.length:Int))];exact .HM n rfl ⟨a.eq λs=>by rw[A8 Ab];rfl,f1⟩
  .rintro n h1 ⟨a,f1⟩;simp only[Cf];exact⟨_,rfl,rfl,a,f1⟩
 obtain⟨r,h1,hr,rfl,a,f1⟩:=O5.ret;exact⟨h1,hr,a,f1⟩
def qf(k:Nat):Aa:= .func (.func 193) [] [.BR [.func (.func k) [] []]]
def KT(k:Nat)(h:Ai):B9 cx 99 [.func (.func k) [] []] h (qf k) h:=by rw[Ag,rh,t99];simp only[Cf,qf]
def aHB{k:Nat}{x:Aa}{h':Ai}(hk:k<=99999)(r:B9 cx k [x] h (.tuple []) h'):B9 cx 193 [x,.BR [.func (.func k) [] []]] h ff h':=by rw[Ag,vH,aBD];simp only[Cf,CC,BB,Af hk,r.Ac]
def Er:List (List Ah×Aa):=[(Hq,.func (.func 98) [] []),(Pz,qf 100),(CT,qf 101),(kK,qf 102),(kL,qf 103),(TO,qf 104),(PC,qf 105),(QJ,.func (.func 106) [] []),(ó,qf 107),(yH,qf 108),(ô,qf 109),(yI,qf 110),(õ,qf 111),(N6,qf 112),([aTJ],qf 113),([aUa],qf 114),([aTC],qf 115),([[97]],qf 116),([aTZ],qf 117),([aTO],qf 118),([aUf],qf 119)]
def aMI(h:Ai):∃h1,B9 cx 40 [] h (.map (some h.length)) h1/\KM h1 h.length (lk Er.reverse)/\Fr h.length h h1:=by
 have Z:KM (h++[.map []]) h.length (lk []):=⟨[],Ax,λs=>rfl⟩;have e0:Fr h.length h (h++[.map []]):= .JX;obtain⟨h1,J,Y,e1⟩:=Od (ME Cz:JZ aTw Hq) Z (.func (.func 98) [] []);try dsimp only at J
 obtain⟨h2,r2,X,e2⟩:=Od (ME Cz:JZ aTx Pz) Y (qf 100);try dsimp only at r2
 obtain⟨h3,I,W,e3⟩:=Od (ME Cz:JZ aTL CT) X (qf 101);try dsimp only at I
 obtain⟨h4,H,V,e4⟩:=Od (ME Cz:JZ aUX kK) W (qf 102);try dsimp only at H
 obtain⟨h5,G,U,e5⟩:=Od (ME Cz:JZ aTM kL) V (qf 103);try dsimp only at G
 obtain⟨h6,F,T,e6⟩:=Od (ME Cz:JZ aTR TO) U (qf 104);try dsimp only at F
 obtain⟨h7,E,S,e7⟩:=Od (ME Cz:JZ aTE PC) T (qf 105);try dsimp only at E
 obtain⟨h8,D,R,e8⟩:=Od (ME Cz:JZ aTv QJ) S (.func (.func 106) [] []);try dsimp only at D
 obtain⟨h9,C,Q,e9⟩:=Od (ME Cz:JZ aTW ó) R (qf 107);try dsimp only at C
 obtain⟨ZH,xq,JY,B⟩:=Od (ME Cz:JZ aUY yH) Q (qf 108);try dsimp only at xq
 obtain⟨gU,e,Mz,A⟩:=Od (ME Cz:JZ aVi ô) JY (qf 109);try dsimp only at e
 obtain⟨h12,c,Nl,z⟩:=Od (ME Cz:JZ aVj yI) Mz (qf 110);try dsimp only at c
 obtain⟨h13,b,Qd,y⟩:=Od (ME Cz:JZ aUF õ) Nl (qf 111);try dsimp only at b
 obtain⟨h14,a,QH,x⟩:=Od (ME Cz:JZ aVd N6) Qd (qf 112);try dsimp only at a
 obtain⟨P,h15,N,L,m,t15,TL,w⟩:=QH.entry aTJ Cz (qf 113);replace TL:=TL.push;obtain⟨h16,l,Vd,u⟩:=TL.set aUa (qf 114);replace Vd:=Vd.push;obtain⟨h17,k,XK,t⟩:=Vd.set aTC (qf 115);replace XK:=XK.push;obtain⟨O,h18,M,K,j,t18,YB,r⟩:=XK.entry [97] Cz (qf 116);replace YB:=YB.push;obtain⟨h19,i,eC,q⟩:=YB.set aTZ (qf 117);replace eC:=eC.push;obtain⟨h20,g,kG,p⟩:=eC.set aTO (qf 118);replace kG:=kG.push;obtain⟨n,f,uq,o⟩:=kG.set aUf (qf 119);replace uq:=uq.push;refine⟨n,?_,uq,((((((((((((((((((((e0.trans e1).trans e2).trans e3).trans e4).trans e5).trans e6).trans e7).trans e8).trans e9).trans B).trans A).trans z).trans y).trans x).trans w).trans u).trans t).trans r).trans q).trans p).trans o⟩;rw[Ag,pk,t40];simp only[abS,Nat.reduceLeDiff,↓reduceIte,J.Ac,r2.Ac,(KT 100 _).Ac,I.Ac,(KT 101 _).Ac,H.Ac,(KT 102 _).Ac,G.Ac,(KT 103 _).Ac,F.Ac,(KT 104 _).Ac,E.Ac,(KT 105 _).Ac,D.Ac,C.Ac,(KT 107 _).Ac,xq.Ac,(KT 108 _).Ac,e.Ac,(KT 109 _).Ac,c.Ac,(KT 110 _).Ac,b.Ac,(KT 111 _).Ac,a.Ac,(KT 112 _).Ac,m,t15,(KT 113 _).Ac,l,(KT 114 _).Ac,k,(KT 115 _).Ac,j,t18,(KT 116 _).Ac,i,(KT 117 _).Ac,g,(KT 118 _).Ac,f,(KT 119 _).Ac]
def OI:List (List Ah×Aa):=[([aTz],.func (.func 98) [] []),([aTF],.func (.func 123) [] []),([aTA],.func (.func 123) [] []),(XQ,qf 124),(uy,qf 125),(CT,qf 126),(TO,qf 127),(kM,qf 128),([aUa],qf 129),([[98,114]],qf 130)]
def aMJ(h:Ai):∃h1,B9 cx 43 [] h (.map (some h.length)) h1/\KM h1 h.length (lk OI.reverse)/\Fr h.length h h1:=by
 have y:KM (h++[.map []]) h.length (lk []):=⟨[],Ax,λs=>rfl⟩;have e0:Fr h.length h (h++[.map []]):= .JX;obtain⟨h1,q,f,H⟩:=y.set aTz (.func (.func 98) [] []);replace f:=f.push;obtain⟨h2,p,e,G⟩:=f.set aTF (.func (.func 123) [] []);replace e:=e.push;obtain⟨O,o,c,F⟩:=e.set aTA (.func (.func 123) [] []);replace c:=c.push;obtain⟨N,m,x,E⟩:=Od (ME Cz:JZ aTu XQ) c (qf 124);try dsimp only at m
 obtain⟨M,l,w,D⟩:=Od (ME Cz:JZ aTH uy) x (qf 125);try dsimp only at l
 obtain⟨L,k,u,C⟩:=Od (ME Cz:JZ aTL CT) w (qf 126);try dsimp only at k
 obtain⟨K,j,t,B⟩:=Od (ME Cz:JZ aTR TO) u (qf 127);try dsimp only at j
 obtain⟨J,i,r,A⟩:=Od (ME Cz:JZ aU8 kM) t (qf 128);try dsimp only at i
 obtain⟨I,n,b,z⟩:=r.set aUa (qf 129);replace b:=b.push;obtain⟨ZH,a,JY,g⟩:=b.set [98,114] (qf 130);replace JY:=JY.push;refine⟨ZH,?_,JY,(((((((((e0.trans H).trans G).trans F).trans E).trans D).trans C).trans B).trans A).trans z).trans g⟩;rw[Ag,pv,t43];simp only[abS,Nat.reduceLeDiff,↓reduceIte,q,p,o,m.Ac,(KT 124 _).Ac,l.Ac,(KT 125 _).Ac,k.Ac,(KT 126 _).Ac,j.Ac,(KT 127 _).Ac,i.Ac,(KT 128 _).Ac,n,(KT 129 _).Ac,a,(KT 130 _).Ac]
def vy:∀{L M:List (List Ah×Aa)},lk (L++M) s=(lk L s).or (lk M s)
 |[],M=>by simp[lk]
 |(ws,v)::L,M=>by
  simp only[CJ,lk];split;.rfl
  .exact vy
def yU:∀{L:List (List Ah×Aa)},(∀g∈L,s∉g.1)->lk L s=none
 |[],_=>rfl
 |(ws,v)::L,h=>by simp only[lk];rw[Ad (h (ws,v) (.head _))];exact yU λg hg=>h g (.tail _ hg)
def qH:∀{L:List (List Ah×Aa)},L.Pairwise (λa b=>∀x∈a.1,x∉b.1)->lk L.reverse s=lk L s
 |[],_=>rfl
 |(ws,v)::L,h=>by
  cases h with
  |cons h1 h2=>
   rw[HD,vy,qH h2];simp only[lk];by_cases c:s∈ws;.rw[Af c,Af c,yU λg hg=>h1 g hg s c];rfl
   .rw[Ad c,Ad c];cases lk L s<;>rfl
def vz:lk Er.reverse s=lk Er s:=qH Cz
def aDq:lk OI.reverse s=lk OI s:=qH Cz
end
section
variable{h h':Ai}{bi si:Nat}{b b':BS}{F F':Nat->Prop}{n o a:Nat}{t:DH}{av:Aa}
def Fg(bi:Nat)(t:DH)(av:Aa):ED:= .cells (Pt bi 0::B1 t av)
def SW.new(w:PB h bi b F)(t:DH)(av:Aa):SW (h++[Fg bi t av]) bi b F h.length t av:=
 ⟨w.JX,by simp[Fg],λhf=>Dc _ (w.lt hf)⟩
def SW.fr(w:SW h bi b F si t av){id:Nat}(HV:h.length<=id)(f:Fr id h h'):SW h' bi b F si t av:=by have hl:=(Aj.1 w.sc).1;exact⟨w.pb.DQ λi hi=>f.2 i (w.pb.lt hi) (by have:=w.pb.lt hi;omega),by rw[f.2 si hl Ab];exact w.sc,w.no⟩
def JP{k h2:Ai}{id:Nat}{x:ED}(HV:(h++[x]).length<=id)(f:Fr id (h++[x]) k)(e:Ew k (λi=>F i\/i=h.length) h2 (λi=>F' i\/i=h.length)):Ew h F h2 F':=by
 have l1:(h++[x]).length=h.length+1:=Ax;have c:=f.1;have l3:=e.len;refine⟨Ab,λi hi hn=>?_,λi hf=>?_⟩;.rw[e.old i Ab (λh=>by rcases h with h|h;exact hn h;omega),f.2 i Ab Ab,An hi]
 .rcases e.BK i (.inl hf) with(h1|h1)|h1
  .exact .inl h1
  .exact .inr Ab
  .exact .inr Ab
def qI(h0:Ai):∃h1,B9 cx 40 [] h0 (.map (some h0.length)) h1/\Fr h0.length h0 h1/\∀s,Oj h1 .nilFunc false (.map (some h0.length)) (.str s)=some ((lk Er s).getD .nilFunc):=by obtain⟨h1,r,k,f⟩:=aMI h0;exact⟨h1,r,f,λs=>by rw[k.get,vz]⟩
def aDr(h0:Ai):∃h1,B9 cx 43 [] h0 (.map (some h0.length)) h1/\Fr h0.length h0 h1/\∀s,Oj h1 .nilFunc false (.map (some h0.length)) (.str s)=some ((lk OI s).getD .nilFunc):=by obtain⟨h1,r,k,f⟩:=aMJ h0;exact⟨h1,r,f,λs=>by rw[k.get,aDq]⟩
def YG{k:Int}(hk:t.k=k)(h:1<=k/\k<=6):t.ok:=by unfold DH.ok;omega
def Oe{k:Nat}{x y:List Aa}:Az (.Ga true .fn) [.func (.func k) x y,.nilFunc]=some tt:=rfl
def XY:Az (.Ga true .fn) [.nilFunc,.nilFunc]=some ff:=rfl
def Of(w:PB h bi b F)(hk:t.k=2){k:Nat}(e:lk Er t.name=some (qf k))(g:k<=99999)(d:∀h1,SW h1 bi b F h.length t av->vt h1 F h.length k [Pt h.length 0] (.tuple []) bi b'):F9 h F 14 [Pt bi 0,.agg (B1 t av)] ff bi b':=by have w0:=SW.new w t av;obtain⟨h1,i,f1,g1⟩:=qI (h++[Fg bi t av]);have w1:=w0.fr (Ae _) f1;obtain⟨h2,l,r2,p2,j⟩:=d h1 w1;have f:=Km w t av;rw[Al (YG hk AM)] at f;have c:=g1 t.name;rw[e] at c;refine⟨h2,l,?_,p2,JP (Ae _) f1 j⟩;rw[Ag,Ki,tK];simp only[Fg,B1,hk,Aq,AJ,Bt] at i f c;simp only[abS,Nat.reduceLeDiff,↓reduceIte,Br,B1,Oe,f.Ac,hk,(AM:¬(2:Int)=5),(AM:¬(2:Int)=4),(AM:¬(2:Int)=6),i.Ac,c,Fy,qf,CC,BB,(aHB g r2).Ac]
def aHC(w:PB h bi b F)(hk:t.k=2){k:Nat}{r:Bool}(e:lk Er t.name=some (.func (.func k) [] []))(g:k<=99999)(d:∀h1,SW h1 bi b F h.length t av->F9 h1 F k [Pt h.length 0] (.bool r) bi b'):F9 h F 14 [Pt bi 0,.agg (B1 t av)] (.bool r) bi b':=by have w0:=SW.new w t av;obtain⟨h1,i,f1,g1⟩:=qI (h++[Fg bi t av]);have w1:=w0.fr (Ae _) f1;obtain⟨h2,l,r2,p2,j⟩:=(d h1 w1).LN (si:=h.length);have f:=Km w t av;rw[Al (YG hk AM)] at f;have c:=g1 t.name;rw[e] at c;refine⟨h2,l,?_,p2,JP (Ae _) f1 j⟩;rw[Ag,Ki,tK];simp only[Fg,B1,hk,Aq,AJ,Bt] at i f c;simp only[abS,Nat.reduceLeDiff,↓reduceIte,Br,B1,Oe,f.Ac,hk,(AM:¬(2:Int)=5),(AM:¬(2:Int)=4),(AM:¬(2:Int)=6),i.Ac,c,Fy,CC,BB,g,r2.Ac]
def aMK(w:PB h bi b F)(g:Gz b (n+4*a+4) o a)(ht:t.Sm)(hv:Bb t.Au av)(hk:t.k=2)(e:lk Er t.name=none):F9 h F 14 [Pt bi 0,.agg (B1 t av)] ff bi (b.Bf.E4 t):=by have w0:=SW.new w t av;obtain⟨h1,i,f1,g1⟩:=qI (h++[Fg bi t av]);have w1:=w0.fr (Ae _) f1;have j:Gz b (n+4+4*a) o a:=g.dn Ab;obtain⟨h2,s,r2,p2,m⟩:=CW w1.pb j;obtain⟨q,r,f,p,l⟩:=ES p2 j.Bf ht hv;have d:=Km w t av;rw[Al (YG hk AM)] at d;have c:=g1 t.name;rw[e] at c;refine⟨q,r,?_,p,JP (Ae _) f1 (m.trans l).kW⟩;rw[Ag,Ki,tK];simp only[Fg,B1,hk,Aq,AJ,Bt] at i d c f;simp only[abS,Nat.reduceLeDiff,↓reduceIte,Br,B1,XY,d.Ac,hk,(AM:¬(2:Int)=5),(AM:¬(2:Int)=4),(AM:¬(2:Int)=6),i.Ac,c,qT,r2.Ac,f.Ac]
def qJ(w:PB h bi b F)(hk:t.k=3){k:Nat}(e:lk OI t.name=some (qf k))(g:k<=99999)(d:∀h1,SW h1 bi b F h.length t av->vt h1 F h.length k [Pt h.length 0] (.tuple []) bi b'):F9 h F 14 [Pt bi 0,.agg (B1 t av)] ff bi b':=by have w0:=SW.new w t av;obtain⟨h1,i,f1,g1⟩:=aDr (h++[Fg bi t av]);have w1:=w0.fr (Ae _) f1;obtain⟨h2,l,r2,p2,j⟩:=d h1 w1;have f:=Km w t av;rw[Al (YG hk AM)] at f;have c:=g1 t.name;rw[e] at c;refine⟨h2,l,?_,p2,JP (Ae _) f1 j⟩;rw[Ag,Ki,tK];simp only[Fg,B1,hk,Aq,AJ,Bt] at i f c;simp only[abS,Nat.reduceLeDiff,↓reduceIte,Br,B1,Oe,f.Ac,hk,(AM:¬(3:Int)=5),(AM:¬(3:Int)=4),(AM:¬(3:Int)=6),(AM:¬(3:Int)=2),i.Ac,c,Fy,qf,CC,BB,(aHB g r2).Ac]
def aDt(w:PB h bi b F)(hk:t.k=3){k:Nat}{r:Bool}(e:lk OI t.name=some (.func (.func k) [] []))(g:k<=99999)(d:∀h1,SW h1 bi b F h.length t av->F9 h1 F k [Pt h.length 0] (.bool r) bi b'):F9 h F 14 [Pt bi 0,.agg (B1 t av)] (.bool r) bi b':=by have w0:=SW.new w t av;obtain⟨h1,i,f1,g1⟩:=aDr (h++[Fg bi t av]);have w1:=w0.fr (Ae _) f1;obtain⟨h2,l,r2,p2,j⟩:=(d h1 w1).LN (si:=h.length);have f:=Km w t av;rw[Al (YG hk AM)] at f;have c:=g1 t.name;rw[e] at c;refine⟨h2,l,?_,p2,JP (Ae _) f1 j⟩;rw[Ag,Ki,tK];simp only[Fg,B1,hk,Aq,AJ,Bt] at i f c;simp only[abS,Nat.reduceLeDiff,↓reduceIte,Br,B1,Oe,f.Ac,hk,(AM:¬(3:Int)=5),(AM:¬(3:Int)=4),(AM:¬(3:Int)=6),(AM:¬(3:Int)=2),i.Ac,c,Fy,CC,BB,g,r2.Ac]
def aML(w:PB h bi b F)(g:Gz b n o a)(hk:t.k=3)(e:lk OI t.name=none):F9 h F 14 [Pt bi 0,.agg (B1 t av)] ff bi (b.Dq t.name):=by have w0:=SW.new w t av;obtain⟨h1,f,f1,g1⟩:=aDr (h++[Fg bi t av]);have w1:=w0.fr (Ae _) f1;obtain⟨h2,j,r2,p2,i⟩:=u_ w1.pb g t.name;have d:=Km w t av;rw[Al (YG hk AM)] at d;have c:=g1 t.name;rw[e] at c;refine⟨h2,j,?_,p2,JP (Ae _) f1 i.kW⟩;rw[Ag,Ki,tK];simp only[Fg,B1,hk,Aq,AJ,Bt] at f d c;simp only[abS,Nat.reduceLeDiff,↓reduceIte,Br,B1,XY,d.Ac,hk,(AM:¬(3:Int)=5),(AM:¬(3:Int)=4),(AM:¬(3:Int)=6),(AM:¬(3:Int)=2),f.Ac,c,qT,r2.Ac]
def qK(w:PB h bi b F)(g:Gz b (n+8*(4*(o+a+8)+10)+8*a+2000) o a)(ht:t.Sm)(hv:Bb t.Au av)(hk:t.k=2):F9 h F 14 [Pt bi 0,.agg (B1 t av)] (.bool (b.opens t).2) bi (b.opens t).1:=by
 have ge:∀{m},m<=n+8*(4*(o+a+8)+10)+8*a+2000->Gz b m o a:=λh=>g.dn h;unfold BS.opens;by_cases c:t.name∈Hq;.rw[Af c];exact aHC w hk (by simp only[Er,lk,Bd,↓reduceIte,c]) AM λh1 w1=>aHy w1 (n:=n) (ge Ab) ht hv λhx=>absurd (Bd.1 hx.2▸c:aTA∈Hq) Cz
 rw[Ad c];by_cases d:t.name∈Pz;.rw[Af d];exact Of w hk (by simp only[Er,lk,↓reduceIte,c,d]) AM λh1 w1=>(vr w1 (n:=n) (ge Ab) ht hv).LN
 rw[Ad d];by_cases e:t.name∈CT;.rw[Af e];exact Of w hk (by simp only[Er,lk,↓reduceIte,c,d,e]) AM λh1 w1=>(aMj w1 (n:=n) (ge Ab) ht hv).LN
 rw[Ad e];by_cases f:t.name∈kK;.rw[Af f];exact Of w hk (by simp only[Er,lk,↓reduceIte,c,d,e,f]) AM λh1 w1=>(aMk w1 (n:=n) (ge Ab) ht hv).LN
 rw[Ad f];by_cases i:t.name∈kL;.rw[Af i];exact Of w hk (by simp only[Er,lk,↓reduceIte,c,d,e,f,i]) AM λh1 w1=>(aDi w1 (n:=n) (ge Ab) ht hv).LN
 rw[Ad i];by_cases j:t.name∈TO;.rw[Af j];exact Of w hk (by simp only[Er,lk,↓reduceIte,c,d,e,f,i,j]) AM λh1 w1=>(aMn w1 (n:=n) (ge Ab) ht hv).LN
 rw[Ad j];by_cases l:t.name∈PC;.rw[Af l];exact Of w hk (by simp only[Er,lk,↓reduceIte,c,d,e,f,i,j,l]) AM λh1 w1=>aHv w1 (n:=n) (ge Ab) ht hv
 rw[Ad l];by_cases p:t.name∈QJ;.rw[Af p];exact aHC w hk (by simp only[Er,lk,↓reduceIte,c,d,e,f,i,j,l,p]) AM λh1 w1=>⟨h1,F,aME _,w1.pb,.refl⟩
 rw[Ad p];by_cases q:t.name∈ó;.rw[Af q];exact Of w hk (by simp only[Er,lk,↓reduceIte,c,d,e,f,i,j,l,p,q]) AM λh1 w1=>(aMt w1 (n:=n) (ge Ab) ht hv).LN
 rw[Ad q];by_cases r:t.name∈yH;.rw[Af r];exact Of w hk (by simp only[Er,lk,↓reduceIte,c,d,e,f,i,j,l,p,q,r]) AM λh1 w1=>(aMw w1 (n:=n) (ge Ab) ht hv).LN
 rw[Ad r];by_cases JY:t.name∈ô;.rw[Af JY];exact Of w hk (by simp only[Er,lk,↓reduceIte,c,d,e,f,i,j,l,p,q,r,JY]) AM λh1 w1=>(aMx w1 (n:=n) (ge Ab) ht hv).LN
 rw[Ad JY];by_cases Mz:t.name∈yI;.rw[Af Mz];exact Of w hk (by simp only[Er,lk,↓reduceIte,c,d,e,f,i,j,l,p,q,r,JY,Mz]) AM λh1 w1=>(aMq w1 (n:=n) (ge Ab) ht hv).LN
 rw[Ad Mz];by_cases Nl:t.name∈õ;.rw[Af Nl];exact Of w hk (by simp only[Er,lk,↓reduceIte,c,d,e,f,i,j,l,p,q,r,JY,Mz,Nl]) AM λh1 w1=>(aMv w1 (n:=n) (ge Ab) ht hv).LN
 rw[Ad Nl];by_cases Qd:t.name∈N6;.rw[Af Qd];exact Of w hk (by simp only[Er,lk,↓reduceIte,c,d,e,f,i,j,l,p,q,r,JY,Mz,Nl,Qd]) AM λh1 w1=>(aMy w1 (n:=n) (ge Ab) ht hv).LN
 rw[Ad Qd];by_cases QH:t.name=aTJ;.rw[Af QH];exact Of w hk (by simp only[Er,lk,Bd,↓reduceIte,c,d,e,f,i,j,l,p,q,r,JY,Mz,Nl,Qd,A5 QH]) AM λh1 w1=>(aMH w1 (n:=n) (ge Ab) ht hv).LN
 rw[Ad QH];by_cases TL:t.name=aUa;.rw[Af TL];exact Of w hk (by simp only[Er,lk,Bd,↓reduceIte,c,d,e,f,i,j,l,p,q,r,JY,Mz,Nl,Qd,QH,A5 TL]) AM λh1 w1=>(aMl w1 (n:=n) (ge Ab) ht hv).LN
 rw[Ad TL];by_cases Vd:t.name=aTC;.rw[Af Vd];exact Of w hk (by simp only[Er,lk,Bd,↓reduceIte,c,d,e,f,i,j,l,p,q,r,JY,Mz,Nl,Qd,QH,TL,A5 Vd]) AM λh1 w1=>(aMm w1 (n:=n) (ge Ab) ht hv).LN
 rw[Ad Vd];by_cases XK:t.name=[97];.rw[Af XK];exact Of w hk (by simp only[Er,lk,Bd,↓reduceIte,c,d,e,f,i,j,l,p,q,r,JY,Mz,Nl,Qd,QH,TL,Vd,A5 XK]) AM λh1 w1=>(aMr w1 (n:=n) (ge Ab) ht hv).LN
 rw[Ad XK];by_cases YB:t.name=aTZ;.rw[Af YB];exact Of w hk (by simp only[Er,lk,Bd,↓reduceIte,c,d,e,f,i,j,l,p,q,r,JY,Mz,Nl,Qd,QH,TL,Vd,XK,A5 YB]) AM λh1 w1=>(aMo w1 (n:=n) (ge Ab) ht hv).LN
 rw[Ad YB];by_cases eC:t.name=aTO;.rw[Af eC];exact Of w hk (by simp only[Er,lk,Bd,↓reduceIte,c,d,e,f,i,j,l,p,q,r,JY,Mz,Nl,Qd,QH,TL,Vd,XK,YB,A5 eC]) AM λh1 w1=>(aMp w1 (n:=n) (ge Ab) ht hv).LN
 rw[Ad eC];by_cases kG:t.name=aUf;.rw[Af kG];exact Of w hk (by simp only[Er,lk,Bd,↓reduceIte,c,d,e,f,i,j,l,p,q,r,JY,Mz,Nl,Qd,QH,TL,Vd,XK,YB,eC,A5 kG]) AM λh1 w1=>(aMu w1 (n:=n) (ge Ab) ht hv).LN
 rw[Ad kG];exact aMK w (n:=n) (ge Ab) ht hv hk (by simp only[Er,lk,Bd,↓reduceIte,c,d,e,f,i,j,l,p,q,r,JY,Mz,Nl,Qd,QH,TL,Vd,XK,YB,eC,kG])
def lA(w:PB h bi b F)(g:Gz b (n+8*(4*(o+a+8)+10)+8*a+2000) o a)(ht:t.Sm)(hv:Bb t.Au av)(hk:t.k=3):F9 h F 14 [Pt bi 0,.agg (B1 t av)] (.bool (b.L5 t).2) bi (b.L5 t).1:=by
 have ge:∀{m},m<=n+8*(4*(o+a+8)+10)+8*a+2000->Gz b m o a:=λh=>g.dn h;unfold BS.L5;by_cases s:t.name=Bc;.rw[Af s];exact aDt w hk (by rw[s];simp only[OI,lk];rfl) AM λh1 w1=>aHy w1 (n:=n) (ge Ab) ht hv λhx=>by have:=hx.1;omega
 rw[Ad s];by_cases r:t.name∈N6
 .rw[Af r];have p:t.name=aTA\/t.name=aTF:=by simpa[N6] using r
  rcases p with p|p
  .exact aDt w hk (by rw[p];simp only[OI,lk];rfl) AM λh1 w1=>aHx w1 (n:=n) (ge Ab)
  .exact aDt w hk (by rw[p];simp only[OI,lk];rfl) AM λh1 w1=>aHx w1 (n:=n) (ge Ab)
 rw[Ad r];have c:¬t.name=aTA/\¬t.name=aTF:=by simpa[N6] using r
 have ņ:¬t.name=aTz:=s;by_cases d:t.name∈XQ;.rw[Af d];exact qJ w hk (by simp only[OI,lk,Bd,↓reduceIte,ņ,c.1,c.2,d]) AM λh1 w1=>(aHw w1 (n:=n) (ge Ab)).LN
 rw[Ad d];by_cases e:t.name∈uy;.rw[Af e];exact qJ w hk (by simp only[OI,lk,Bd,↓reduceIte,ņ,c.1,c.2,d,e]) AM λh1 w1=>(aMD w1 (n:=n) (ge Ab)).LN
 rw[Ad e];by_cases f:t.name∈CT;.rw[Af f];exact qJ w hk (by simp only[OI,lk,Bd,↓reduceIte,ņ,c.1,c.2,d,e,f]) AM λh1 w1=>(aMB w1 (n:=n) (ge Ab)).LN
 rw[Ad f];by_cases i:t.name∈TO;.rw[Af i];exact qJ w hk (by simp only[OI,lk,Bd,↓reduceIte,ņ,c.1,c.2,d,e,f,i]) AM λh1 w1=>(aMA w1 (n:=n) (ge Ab)).LN
 rw[Ad i];by_cases j:t.name∈kM;.rw[Af j];exact qJ w hk (by simp only[OI,lk,Bd,↓reduceIte,ņ,c.1,c.2,d,e,f,i,j]) AM λh1 w1=>(aMF w1 (n:=n) (ge Ab)).LN
 rw[Ad j];by_cases l:t.name=aUa;.rw[Af l];exact qJ w hk (by simp only[OI,lk,Bd,↓reduceIte,ņ,c.1,c.2,d,e,f,i,j,A5 l]) AM λh1 w1=>(aMC w1 (n:=n) (ge Ab)).LN
 rw[Ad l];by_cases q:t.name=[98,114];.rw[Af q];exact qJ w hk (by simp only[OI,lk,Bd,↓reduceIte,ņ,c.1,c.2,d,e,f,i,j,l,A5 q]) AM λh1 w1=>(aMG w1 (n:=n) (ge Ab))
 rw[Ad q];exact aML w (n:=n) (ge Ab) hk (by simp only[OI,lk,Bd,↓reduceIte,ņ,c.1,c.2,d,e,f,i,j,l,q])
def aDu(w:PB h bi b F)(g:Gz b n o a):F9 h F 84 [Pt bi 0] (.tuple []) bi b.aC9:=by
 have r:=g.rm.tm;obtain⟨l,j,c,tt,G,w,hc,rfl⟩:=w;have lt:=Bv.F0 w.t;have l6:=w.l6;by_cases h0:b.tm=[]
 .have e:b.aC9=b:=by
   unfold BS.aC9;have:b.tm.dropLast=b.tm:=by rw[h0];rfl
   rw[this]
  refine⟨h,_,?_,⟨l,j,c,tt,G,by rw[e];exact w,by rw[e];exact hc,rfl⟩,.refl⟩;have i:Az (.len false) [tt]=some (I 0):=by rw[lt,h0];rfl
  rw[Ag,pA,t84];simp only[abS,l6,i,UX]
 .have hpos:=Fa.2 h0;obtain⟨u,s,f⟩:=Bv.Sg w.t (k:= .i64) (n:=b.tm.length-1) Ab;rw[<-aEg] at f;obtain⟨p,q,d⟩:=æ f Ei h;have m:=w.ui d;refine⟨_,_,?_,⟨l,j,c,p,G,m,hc,rfl⟩,BL⟩;rw[Ag,pA,t84];simp only[abS,l6,lt,(Ab:(0:Int)<(b.tm.length:Int)),NO hpos (Ab:b.tm.length<9223372036854775807),s,q.Ac,w.st (k:=6) (v0:=tt) rfl (Bv.cells d),UX]
def ZY(w:PB h bi b F)(g:Gz b (n+4*a+5) o a)(ht:t.Sm)(hk:t.k=5):F9 h F 14 [Pt bi 0,.agg (B1 t av)] ff bi (b.PD t):=by have w0:=SW.new w t av;obtain⟨h2,e,r2,p2,d⟩:=(aMz w0 g ht).LN (si:=h.length);have c:=Km w t av;rw[Al (YG hk AM)] at c;refine⟨h2,e,?_,p2,JP (Ae _) .refl d⟩;rw[Ag,Ki,tK];simp only[Fg,B1,hk] at r2 c;simp only[abS,Nat.reduceLeDiff,↓reduceIte,Br,B1,c.Ac,hk,r2.Ac]
def SU(w:PB h bi b F)(g:Gz b (n+1) o a)(ht:t.Sm)(hk:t.k=4):F9 h F 14 [Pt bi 0,.agg (B1 t av)] ff bi (b.EL t.data 0):=by have w0:=SW.new w t av;obtain⟨h2,e,r2,p2,d⟩:=LC w0.pb g (Bp ht.data AM) 0;have c:=Km w t av;rw[Al (YG hk AM)] at c;refine⟨h2,e,?_,p2,JP (id:=h.length+1) Ax .refl d.kW⟩;rw[Ag,Ki,tK];simp only[Fg,B1,hk] at r2 c;simp only[abS,Nat.reduceLeDiff,↓reduceIte,Br,B1,c.Ac,hk,r2.Ac,(AM:¬(4:Int)=5)]
def lB(w:PB h bi b F)(hk:t.k=1):F9 h F 14 [Pt bi 0,.agg (B1 t av)] ff bi b:=by have w0:=SW.new w t av;have c:=Km w t av;rw[Al (YG hk AM)] at c;refine⟨_,F,?_,w0.pb,JP (id:=h.length+1) (x:=Fg bi t av) Ax .refl (Ew.refl.kW)⟩;rw[Ag,Ki,tK];simp only[Fg,B1,hk] at c⊢;simp only[abS,Nat.reduceLeDiff,↓reduceIte,Br,B1,c.Ac,hk,(AM:¬(1:Int)=5),(AM:¬(1:Int)=4),(AM:¬(1:Int)=6),(AM:¬(1:Int)=2),(AM:¬(1:Int)=3)]
def v_(w:PB h bi b F)(hk:¬t.ok):F9 h F 14 [Pt bi 0,.agg (B1 t av)] ff bi b:=by have c:=Km w t av;rw[Ak hk] at c;refine⟨_,F,?_,w,.refl⟩;rw[Ag,Ki,tK];simp only[B1] at c;simp only[abS,Nat.reduceLeDiff,↓reduceIte,Br,B1,c.Ac]
end
section
variable{h h':Ai}{bi:Nat}{b b':BS}{F:Nat->Prop}{n o a:Nat}{t:DH}{av:Aa}
def û(hs:t.st Hq):¬t.st [aTA]:=λhx=>absurd (Bd.1 hx.2▸hs.2:aTA∈Hq) Cz
def aHD(w:PB h bi b F)(g:Gz b (n+4*a+1005) o a)(ht:t.Sm)(hv:Bb t.Au av)(hf:∀m,t.k=2->F9 h F 82 [Pt bi 0,I m] tt bi (b.Hr m).1):F9 h F 32 [Pt bi 0,.agg (B1 t av)] (.bool (b.Ep t).2) bi (b.Ep t).1:=by
 have Ce:=w.Ce;unfold BS.Ep BS.TQ;by_cases E:¬t.ok;.rw[Af E];have f:=Km w t av;rw[Ak E] at f;refine⟨_,_,?_,w,.refl⟩;rw[Ag,I9,lV];simp only[abS,↓reduceIte,f.Ac]
 rw[Ad E];have f:=Km w t av;rw[Al (E9.1 E)] at f;by_cases i:t.k=5;.rw[Af i];obtain⟨h1,s,d,w1,c⟩:=ZY (n:=n) (av:=av) w (g.dn Ab) ht i;refine⟨_,_,?_,w1,c⟩;rw[Ag,I9,lV];simp only[abS,↓reduceIte,f.Ac,A5 i,d.Ac]
 rw[Ad i];by_cases j:t.k=4;.rw[Af j];obtain⟨h1,s,d,w1,c⟩:=SU (n:=n) (av:=av) w (g.dn Ab) ht j;refine⟨_,_,?_,w1,c⟩;rw[Ag,I9,lV];simp only[abS,↓reduceIte,f.Ac,i,A5 j,d.Ac]
 rw[Ad j];by_cases l:t.k=1;.rw[Af l];obtain⟨h1,s,d,w1,c⟩:=lB (av:=av) w l;refine⟨_,_,?_,w1,c⟩;rw[Ag,I9,lV];simp only[abS,↓reduceIte,f.Ac,i,j,A5 l,d.Ac]
 rw[Ad l];by_cases D:t.st Hq;.rw[Af D];have p:=FF Qg t av h;rw[Al D] at p;obtain⟨h1,s,d,w1,c⟩:=eK (n:=n) w (g.dn Ab) ht hv (λe=>absurd e (û D));refine⟨_,_,?_,w1,c⟩;rw[Ag,I9,lV];simp only[abS,↓reduceIte,f.Ac,p.Ac,i,j,l,d.Ac]
 rw[Ad D];have p:=FF Qg t av h;rw[Ak D] at p;by_cases C:t.en [Bc];.rw[Af C];have q:=YD Gy t av h;rw[Al C] at q;obtain⟨h1,s,d,w1,c⟩:=eK (n:=n) w (g.dn Ab) ht hv (λe=>by have h1:=e.1;have h2:=C.1;omega);refine⟨_,_,?_,w1,c⟩;rw[Ag,I9,lV];simp only[abS,↓reduceIte,f.Ac,p.Ac,q.Ac,i,j,l,d.Ac]
 rw[Ad C];have q:=YD Gy t av h;rw[Ak C] at q;by_cases B:t.st sT1;.rw[Af B];have r:=FF vo t av h;rw[Al B] at r;obtain⟨h1,s,d,w1,c⟩:=hf 9 B.1;refine⟨_,_,?_,w1,c⟩;rw[Ag,I9,lV];simp only[abS,↓reduceIte,f.Ac,p.Ac,q.Ac,r.Ac,i,j,l,d.Ac,BS.Hr,BS.again]
 rw[Ad B];have r:=FF vo t av h;rw[Ak B] at r;by_cases A:t.st [aVc];.rw[Af A];have u:=FF yR t av h;rw[Al A] at u;obtain⟨h1,s,d,w1,c⟩:=hf 12 A.1;refine⟨_,_,?_,w1,c⟩;rw[Ag,I9,lV];simp only[abS,↓reduceIte,f.Ac,p.Ac,q.Ac,r.Ac,u.Ac,i,j,l,d.Ac,BS.Hr,BS.again]
 rw[Ad A];have u:=FF yR t av h;rw[Ak A] at u;by_cases z:t.st [[116,114]];.rw[Af z];have v:=FF vq t av h;rw[Al z] at v;obtain⟨h1,s,d,w1,c⟩:=hf 13 z.1;refine⟨_,_,?_,w1,c⟩;rw[Ag,I9,lV];simp only[abS,↓reduceIte,f.Ac,p.Ac,q.Ac,r.Ac,u.Ac,v.Ac,i,j,l,d.Ac,BS.Hr,BS.again]
 rw[Ad z];have v:=FF vq t av h;rw[Ak z] at v;by_cases y:t.st sTd;.rw[Af y];have x:=FF vp t av h;rw[Al y] at x;obtain⟨h1,s,d,w1,c⟩:=hf 14 y.1;refine⟨_,_,?_,w1,c⟩;rw[Ag,I9,lV];simp only[abS,↓reduceIte,f.Ac,p.Ac,q.Ac,r.Ac,u.Ac,v.Ac,x.Ac,i,j,l,d.Ac,BS.Hr,BS.again]
 rw[Ad y];have x:=FF vp t av h;rw[Ak y] at x;by_cases JY:t.k=2;.rw[Af JY];obtain⟨h1,s,d,w1,c⟩:=hf 7 JY;refine⟨_,_,?_,w1,c⟩;rw[Ag,I9,lV];simp only[abS,↓reduceIte,f.Ac,p.Ac,q.Ac,r.Ac,u.Ac,v.Ac,x.Ac,i,j,l,A5 JY,d.Ac,BS.Hr,BS.again]
 rw[Ad JY];by_cases Mz:t.k=3;.rw[Af Mz];refine⟨_,_,?_,w,.refl⟩;rw[Ag,I9,lV];simp only[abS,↓reduceIte,f.Ac,p.Ac,q.Ac,r.Ac,u.Ac,v.Ac,x.Ac,i,j,l,JY,A5 Mz]
 rw[Ad Mz];by_cases Nl:b.W9;.rw[Af Nl];have et:=Rp w g;rw[Al Nl] at et;obtain⟨_,h1,s,d,w1,c⟩:=eF w g (CP (ws:=[Bc])) AM;have g1:Gz {b with AK:=DT Db (Be [Bc]) b.AK} (n+4*a+1005) o a:=g.Js Cs;obtain⟨_,h2,T,r2,M,J⟩:=yL w1 g1;have g2:Gz {b with AK:=DT Db (Be [Bc]) b.AK,AZ:=Fx b.AZ} (n+4*a+1005) o a:=g.sub (lt:=b.tm) Cs (Cl _ _) (Ae _);have g3:Gz {b with AK:=DT Db (Be [Bc]) b.AK,AZ:=Fx b.AZ,tm:=b.tm.dropLast} (n+4*a+1005) o a:=g.sub Cs (Cl _ _) Ax;obtain⟨Q,S,O,L,H⟩:=aDu M g2;obtain⟨P,R,N,K,G⟩:=ø L g3;refine⟨_,_,?_,K,((c.trans J).trans H).trans G⟩;rw[Ag,I9,lV];simp only[abS,↓reduceIte,f.Ac,p.Ac,q.Ac,r.Ac,u.Ac,v.Ac,x.Ac,et.Ac,i,j,l,JY,Mz,yD,d.Ac,r2.Ac,O.Ac,N.Ac]
 rw[Ad Nl];have et:=Rp w g;rw[Ak Nl] at et;obtain⟨h1,s,d,w1,c⟩:=va w;refine⟨_,_,?_,w1,c⟩;rw[Ag,I9,lV];simp only[abS,↓reduceIte,f.Ac,p.Ac,q.Ac,r.Ac,u.Ac,v.Ac,x.Ac,et.Ac,i,j,l,JY,Mz,d.Ac]
def wc(w:PB h bi b F)(g:Gz b (n+8*(4*(o+a+8)+10)+8*a+2000) o a)(ht:t.Sm)(hv:Bb t.Au av):F9 h F 14 [Pt bi 0,.agg (B1 t av)] (.bool (b.E5 t).2) bi (b.E5 t).1:=by
 have ge:∀{m},m<=n+8*(4*(o+a+8)+10)+8*a+2000->Gz b m o a:=λh=>g.dn h;unfold BS.E5;by_cases j:¬t.ok;.rw[Af j];exact v_ w j
 rw[Ad j];by_cases r:t.k=5;.rw[Af r];exact ZY (n:=n) w (ge Ab) ht r
 rw[Ad r];by_cases q:t.k=4;.rw[Af q];exact SU (n:=n) w (ge Ab) ht q
 rw[Ad q];by_cases d:t.k=6
 .rw[Af d];obtain⟨x,l6,s⟩:=w.ltm;have lt:=Bv.F0 s;have w0:=SW.new w t av;have ok:=Km w t av;rw[Al (YG d AM)] at ok;obtain⟨v,c,aMM⟩:=w0.pb.ltm;have i:=Bv.F0 aMM;by_cases e:0<b.tm.length;.rw[Af e];obtain⟨h1,u,f,w1,l⟩:=aHD (n:=n) (av:=av) w0.pb (ge Ab) ht hv (λm hm=>Ab);refine⟨h1,u,?_,w1,JP (id:=h.length+1) Ax .refl l.kW⟩;rw[Ag,Ki,tK];simp only[Fg,B1,d] at f ok c;simp only[abS,Nat.reduceLeDiff,↓reduceIte,Br,B1,ok.Ac,d,(AM:¬(6:Int)=5),(AM:¬(6:Int)=4),c,i,(Ab:(0:Int)<(b.tm.length:Int)),f.Ac]
  .rw[Ad e];obtain⟨h1,u,f,w1,l⟩:=va w0.pb;refine⟨h1,u,?_,w1,JP (id:=h.length+1) Ax .refl l.kW⟩;rw[Ag,Ki,tK];simp only[Fg,B1,d] at f ok c;simp only[abS,Nat.reduceLeDiff,↓reduceIte,Br,B1,ok.Ac,d,(AM:¬(6:Int)=5),(AM:¬(6:Int)=4),c,i,(Ab:¬(0:Int)<(b.tm.length:Int)),f.Ac]
 rw[Ad d];by_cases e:t.k=2;.rw[Af e];exact qK (n:=n) w g ht hv e
 rw[Ad e];by_cases p:t.k=3;.rw[Af p];exact lA (n:=n) w g ht hv p
 .rw[Ad p];exact lB w (by have:=E9.1 j;unfold DH.ok at this;omega)
end
section
variable{h h':Ai}{ar n x:Int}{ps:List PN}{A:Ar}
def aHE{a n:Nat}{m:Option Nat}(w:PA h a n m ps A)(d:Mh A)(hd:A.has x/\(A.nd x).kind=1)(q:Bool):
  ∃h' Mi,B9 cx 70 [Pt a 0,I x,.bool q] h (I 0) h'/\PA h' a n m Mi (A.set x {A.nd x with CS:=q})/\Ew h (λi=>i∈Fu a n m ps) h' (λi=>i∈Fu a n m Mi):=by
 have hp:=(w.pn hd.1).2.1;obtain⟨h2,e,c,j,f,g⟩:=w.wr hd.1 (k:=10) AM (v:= .bool q) rfl (p:=⟨{A.nd x with CS:=q},(pN ps x).kv,(pN ps x).av,by rw[<-hp];exact(pN ps x).ok⟩) (by simp only[PN.row];rw[hp];rfl) rfl rfl;refine⟨h2,_,?_,c,w.xW c j f g⟩;rw[Ag,qi,t70];simp only[abS,(jR (x:=x) w d).Ac,Af hd.1,Af hd.2,Cy,Cn,(Ij w d hd.1).Ac,e]
def eM(nm JV sys:Ah)(d:Int):PN:=⟨{kind:=3,CK:=d,name:=nm,JV:=JV,sys:=sys},.slnil,.slnil,rfl⟩
def aHF{a n:Nat}{m:Option Nat}{nm JV sys:Ah}(w:PA h a n m ps A)(e:Mh A)(hb:A.len+1<=1000000000)(hd:A.has x/\(A.nd x).kind=1):
  ∃h',B9 cx 72 [Pt a 0,I x,.str nm,.str JV,.str sys] h (.tuple [I (A.len+1),I 0]) h'/\PA h' a h.length m (ps++[eM nm JV sys x]) (A.add (eM nm JV sys x).x)/\(∀i,i<h.length->i≠a->i≠n->h'[i]?=h[i]?)/\h'.length=h.length+1:=by
 have rP:=w.len;obtain⟨h1,c,w1,d,l1⟩:=tg w Ab (eM nm JV sys x) rfl rfl;have r2:B9 cx 177 [Pt a 0,I x,.agg (eM nm JV sys 0).row] h (.tuple [I (A.len+1),I 0]) h1:=by rw[PN.row] at c;rw[Ag,cY,Æ,PN.row];simp only[abS,(jR (x:=x) w e).Ac,Af hd.1,Af hd.2,Cy,Cn,eM] at c⊢;simp only[Cf,c.Ac]
 refine⟨h1,?_,w1,d,l1⟩;simp only[PN.row,eM] at r2;rw[Ag,ql,t72];simp only[abS,Nat.reduceLeDiff,↓reduceIte,Br,r2.Ac]
end
section
variable{h h':Ai}{bi:Nat}{b b':BS}{F:Nat->Prop}{n o a:Nat}{t:DH}{av:Aa}
def we(w:PB h bi b F)(g:Gz b n o a):∃ar,Bj h none (Pt bi 0)=some (Pt ar 0)/\F9 h F 70 [Pt ar 0,I b.CK,tt] (I 0) bi b.ö:=by
 obtain⟨ar,i,c,d,G,w,hc,rfl⟩:=w;obtain⟨h',j,r,w',x'⟩:=w.step (A':=b.ö.a) (R:=λh'=>B9 cx 70 [Pt ar 0,I b.CK,tt] h (I 0) h') λn m ps f=>by obtain⟨h1,Yz,r,w1,e⟩:=aHE f g.rm.UZ g.ok.CK true;exact⟨h1,n,m,Yz,r,w1,e⟩
 exact⟨ar,w.l0,h',_,r,⟨ar,i,c,d,j,w',hc,rfl⟩,x'⟩
def aMN(w:PB h bi b F)(g:Gz b (n+1) o a)(nm JV sys:Ah):∃ar,Bj h none (Pt bi 0)=some (Pt ar 0)/\F9 h F 72 [Pt ar 0,I b.CK,.str nm,.str JV,.str sys] (.tuple [I (b.a.len+1),I 0]) bi {b with a:=b.a.add (eM nm JV sys b.CK).x}:=by
 obtain⟨ar,f,c,d,G,w,hc,rfl⟩:=w;obtain⟨h',j,r,w',x'⟩:=w.step (A':=b.a.add (eM nm JV sys b.CK).x) (R:=λh'=>B9 cx 72 [Pt ar 0,I b.CK,.str nm,.str JV,.str sys] h (.tuple [I (b.a.len+1),I 0]) h') λn m ps e=>by obtain⟨h1,r,w1,i,l1⟩:=aHF (nm:=nm) (JV:=JV) (sys:=sys) e g.rm.UZ (by have:=g.rm.n;unfold Ar.len;omega) g.ok.CK;exact⟨h1,_,_,_,r,w1,e.Qb rfl i l1⟩
 exact⟨ar,w.l0,h',_,r,⟨ar,f,c,d,j,w',hc,rfl⟩,x'⟩
def aDv(w:PB h bi b F)(g:Gz b n o a){e:Int}(ok:EZ b.a e)(p x k:Int):∃f d,Bj h none (Pt bi 0)=some (Pt f 0)/\F9 h F 73 [Pt f 0,I p,I x,I k] (I d) bi {b with a:=b.a.Ie p x k}:=by
 obtain⟨f,q,c,i,G,w,hc,rfl⟩:=w;obtain⟨h',s,⟨d,r⟩,w',x'⟩:=w.step (A':=b.a.Ie p x k) (R:=λh'=>∃d,B9 cx 73 [Pt f 0,I p,I x,I k] h (I d) h') λn m ps l=>by obtain⟨d,h1,Yz,r,w1,j⟩:=Ļ (p:=p) (x:=x) (b:=k) l g.rm.UZ ok;exact⟨h1,n,m,Yz,⟨d,r⟩,w1,j⟩
 exact⟨f,d,w.l0,h',_,r,⟨f,q,c,i,s,w',hc,rfl⟩,x'⟩
def aMO{qk:DH->Bool}(w:PB h bi b F)(g:Gz b (n+5) o a)(ht:t.Sm)(hv:Bb t.Au av)(hq:∀h,B9 cx 74 [.agg (B1 t av)] h (.bool (qk t)) h):F9 h F 25 [Pt bi 0,.agg (B1 t av)] (.bool (b.MD qk t).2) bi (b.MD qk t).1:=by
 have Ce:=w.Ce;unfold BS.MD;by_cases A:¬t.ok;.rw[Af A];have c:=Km w t av;rw[Ak A] at c;refine⟨_,_,?_,w,.refl⟩;rw[Ag,Rh,ĩ];simp only[abS,↓reduceIte,c.Ac]
 rw[Ad A];have c:=Km w t av;rw[Al (E9.1 A)] at c;by_cases z:t.ID;.rw[Af z];have d:=SP t av h;rw[Al z] at d;refine⟨_,_,?_,w,.refl⟩;rw[Ag,Rh,ĩ];simp only[abS,↓reduceIte,c.Ac,d.Ac]
 rw[Ad z];have d:=SP t av h;rw[Ak z] at d;by_cases v:t.k=4;.rw[Af v];obtain⟨h1,L,j,w1,i⟩:=LC (s:=t.data) w (g.dn (n':=n+1) Ab) (by have:=ht.data;omega) b.CK;refine⟨_,_,?_,w1,i⟩;rw[Ag,Rh,ĩ];simp only[abS,↓reduceIte,c.Ac,d.Ac,A5 v,Ce,j.Ac]
 rw[Ad v];by_cases f:t.k=1;rotate_left;.rw[Af f];obtain⟨S,u,h1,L,j,w1,i⟩:=we w g;obtain⟨h2,K,r2,r,q⟩:=qF w1 2;refine⟨_,_,?_,r,i.trans q⟩;rw[Ag,Rh,ĩ];simp only[abS,↓reduceIte,c.Ac,d.Ac,v,Cy,eq_false f,AV,u,Ce,j.Ac,r2.Ac,BS.again]
 rw[Ad (by simp[f])];have hd:=g.ok.CK;have hx:sY {kind:=3,CK:=b.CK,name:=t.name,JV:=t.JV,sys:=t.sys}:=by constructor<;>simp[C8,Gw,fB]
 have ZJ:=Rc g.ok.ok hx (.inr ⟨Ax,hd⟩) rfl rfl rfl rfl (λh=>absurd h.1 (AM:¬(3:Int)=4));obtain⟨S,u,h1,L,j,w1,i⟩:=aMN w (g.dn (n':=n+1) Ab) t.name t.JV t.sys;have g1:Gz {b with a:=b.a.add (eM t.name t.JV t.sys b.CK).x} n o a:=⟨g.ok.I8 ZJ Xh,(g.dn (n':=n+1) Ab).rm.FH (KJ (y:={kind:=3,CK:=b.CK,name:=t.name,JV:=t.JV,sys:=t.sys}) Ax Ax),g.AK,g.AZ⟩;obtain⟨R,T,p,h2,K,r2,r,q⟩:=aDv w1 g1 (e:=0) ZJ b.CK (b.a.len+1) 0;have l1:=w1.Ce;have P:=r.Ce;have g2:Gz (b.ZR t) n o a:=(g.dn (n':=n+1) Ab).ZR;have m:PB h2 bi (b.ZR t) K:=r;have l:=hq h2;dsimp only;cases J:qk t with
 |true=>rw[J] at l;rw[Af rfl];obtain⟨H,G,Q,U,O,N,M⟩:=we m g2;have E:B9 cx 70 [Pt H 0,I b.CK,tt] h2 (I 0) Q:=O;obtain⟨D,C,B⟩:=Gd N 2;refine⟨_,_,?_,C,((i.trans q).trans M).trans B⟩;rw[Ag,Rh,ĩ];simp only[B1,f] at c d l;simp only[abS,↓reduceIte,c.Ac,d.Ac,(AM:¬(1:Int)=4),f,B1,Cy,AU,u,Ce,j.Ac,p,l1,r2.Ac,l.Ac,G,P,E.Ac,D]
 |false=>rw[J] at l;rw[Ad Ax];obtain⟨D,C,B⟩:=Gd m 2;refine⟨_,_,?_,C,(i.trans q).trans B⟩;rw[Ag,Rh,ĩ];simp only[B1,f] at c d l;simp only[abS,↓reduceIte,c.Ac,d.Ac,(AM:¬(1:Int)=4),f,B1,Cy,AU,u,Ce,j.Ac,p,l1,r2.Ac,l.Ac,D]
end
end Go.Am
end
section
end
section
namespace Go.Am
open Go
section
variable{av:Aa}
def qE1:Ah:=aT6
def qE2:Ah:=aT7
def qE3:Ah:=[72,84,77,76]
def qA:Ah:=aT9
def qB:Ah:=aT1
def Hg:List Ah:=[qE1,qE2,qE3]
def qL:List Ah:=[aUg,aT8,aUk,aT2,aT3,aUl,aTV,aUj,aTU,aTN,aTI,aTK,aUh,aT5]
def ZZ:List Ah:=[qA,qB]
def ew{k:IntKind}{s:Ah}{b z:Nat}(hb:b<=s.length):Az (.OM z true false true) [.str s,.int k (b:Int)]=some (.str (s.take b)):=by
 have a:Ey (b:Int) s.length=some b:=by unfold Ey;rw[Af Ab];rfl
 simp[Az,IY,Dz,a]
def Iz(p w:Ah):Bool:=decide (w.length<=p.length/\EC (p.take w.length)=EC w)
def VA(p w:Ah):Bool:=decide (EC p=EC w)
def aMP{v:Aa}{l:List Ah}(hv:HN l v)(hn:l.length<9223372036854775807)(h:Ai){f:FuncId}{caps:List Aa}{p:Ah->Bool}(hk:f<=99999)(hp:∀a∈l,B9 cx f (.str a::caps) h (.bool (p a)) h):
  B9 cx 248 [v,.func (.func f) [] caps] h (I (Cc p 0 l)) h:=by
 rw[Ag,wX,aCj];have hlen:(l.map Ca).length=l.length:=Av ..;simp only[Cf,Bv.len hv];refine BM (λn:Nat=>[I 0,I (n:Int)]) (λn h1=>n<=l.length/\Cc p 0 l=Cc p n (l.drop n)/\h1=h) (λn=>l.length-n) 0 rfl ⟨A7 _,rfl,rfl⟩ ?_;rintro n h1 ⟨Ù,ha,rfl⟩;rcases Bi n l.length with hlt|GX
 .have i1:(n:Int)<((l.map Ca).length:Int):=by rw[hlen];omega
  have b:(l.map Ca)[n]'(by rw[hlen];exact hlt)=Ca l[n]:=Ax;rw[Ay hlt,Cc] at ha;simp only[Cf,bK,↓reduceIte,CC,hk,i1,Bv.FA hv (show n<(l.map Ca).length by rw[hlen];exact hlt),b,Ca,(hp _ (AY hlt)).Ac];rw[Da];refine⟨λhe=>?_,λhe=>?_⟩;.rw[ha,Af he]
  .rw[Ad (by simp[he])] at ha;simp only[Cf,CI (Ab:n<9223372036854775807)];exact Bq.next (n+1) rfl ⟨hlt,ha,rfl⟩ Ab
 .have i1:¬(n:Int)<((l.map Ca).length:Int):=by rw[hlen];omega
  rw[AT GX,Cc] at ha;simp only[Cf,i1,AV,AP,AH,ha]
def ü{U:Type}{p:U->Bool}{l:List U}:decide (0<=Cc p 0 l)=l.any p:=by
 have:l.any p=(l.find? p).isSome:=by rw[K0,aO4,J0]
 rw[this];rcases Gu (p:=p) (l:=l) (k:=0) with⟨h1,h2⟩|⟨n,a,h1,h2,b⟩
 .rw[h1,h2];simp
 .rw[h1,b];simp
def aMQ{v:Aa}{l:List Ah}(hv:HN l v)(hn:l.length<9223372036854775807)(h:Ai){f:FuncId}{caps:List Aa}{p:Ah->Bool}(hk:f<=99999)(hp:∀a∈l,B9 cx f (.str a::caps) h (.bool (p a)) h):
  B9 cx 184 [v,.func (.func f) [] caps] h (.bool (l.any p)) h:=by
 rw[Ag,vC,aBy];simp only[Cf,(aMP hv hn h hk hp).Ac,ü]
def aHG(t:DH)(ht:t.JV.length<=AO)(w:Ah)(hw:w.length<=AO)(h:Ai):B9 cx 183 [.str w,.BR (B1 t av)] h (.bool (Iz t.JV w)) h:=by
 have hc:(t.JV.take w.length).length<=AO:=by rw[AB];omega
 rw[Ag,vB,aBx,B1];simp only[Cf];refine⟨λh=>?_,λh=>?_⟩
 .have h:w.length<=t.JV.length:=by omega
  simp only[Cf,ew h,(sr _ _ hc hw).Bn rfl rfl,Iz,h]
 .have h:¬w.length<=t.JV.length:=by omega
  simp[h,Iz]
def eO(t:DH):Bool:=
 if t.k≠1 then false else if t.q=true then true else if t.hn=false then true else if t.name≠aTA then true else if t.hp=false then false
 else Hg.any (VA t.JV)||qL.any (Iz t.JV)||(!t.hs&&ZZ.any (Iz t.JV))
def f75(t:DH)(ht:t.JV.length<=AO)(h:Ai):B9 cx 74 [.agg (B1 t av)] h (.bool (eO t)) h:=by
 have c:=El (ws:=qL) (args:=qL.map Aa.str) rfl AM;have g:=El (ws:=Hg) (args:=Hg.map Aa.str) rfl AM;generalize v:(Aa.sl 1 (qL.map Ca))=E at c;generalize hz2:(Aa.sl 1 (Hg.map Ca))=z2 at g;simp only[qL,Hg,qE1,qE2,qE3,A9,Dw] at c g;try dsimp only at c g
 rw[<-v] at c;rw[<-hz2] at g;have w1:∀w∈qL,w.length<=AO:=Cz;have A:∀w∈ZZ,w.length<=AO:=Cz;have C:∀w∈Hg,w.length<=AO:=Cz;have hv:HN Hg (.sl 1 (Hg.map Ca)):= .mk;have hlen:(Hg.map Ca).length=3:=rfl;have jT:Hg.length=3:=rfl;have B:=λw hw=>aHG (av:=av) t ht w hw h;have i:=λk=>(aMQ (l:=qL) .mk AM h (f:=183) (caps:=[.BR (B1 t av)]) (p:=Iz t.JV) AM (λa ha=>aHG (av:=av) t ht a (w1 a ha) h)).Ac (k:=k) (Q:=λx vs h1=>x= .ret/\vs=[.bool (eO t)]/\h1=h);have u:=λk=>(B qA (A _ (by simp[ZZ]))).Ac (k:=k) (Q:=λx vs h1=>x= .ret/\vs=[.bool (eO t)]/\h1=h);have s:=λk=>(B qB (A _ (by simp[ZZ]))).Ac (k:=k) (Q:=λx vs h1=>x= .ret/\vs=[.bool (eO t)]/\h1=h);have z:ZZ.any (Iz t.JV)=(Iz t.JV qA||Iz t.JV qB):=by simp[ZZ]
 have hq:eO t=eO t:=rfl;conv at hq=>rhs;unfold eO
 rw[z] at hq;rw[Ag,qm,t74,B1];rw[B1] at i u s;simp only[O9,P0,AJ,Bt,Nat.reduceAdd,↓reduceIte,LS,YL,aIS];by_cases e:t.k=1;rotate_left;.rw[Af e] at hq;simp only[abS,e,Cy,hq]
 rw[Ad (by simp[e])] at hq;simp only[abS,e,Cy];cases r:t.q with
 |true=>rw[Af r] at hq;simp only[Cf,hq]
 |false=>
  rw[Ad (by simp[r])] at hq;simp only[Cf];cases o:t.hn with
  |false=>rw[Af o] at hq;simp only[abS,hq]
  |true=>
   rw[Ad (by simp[o])] at hq;simp only[abS];by_cases d:t.name=aTA;rotate_left;.rw[Af d] at hq;simp only[abS,d,hq]
   rw[Ad (by simp[d])] at hq;simp only[abS,d];cases m:t.hp with
   |false=>rw[Af m] at hq;simp only[abS,hq]
   |true=>
    rw[Ad (by simp[m])] at hq;simp only[abS,g,Bv.len hv,hlen];refine BM (λn:Nat=>[.bool false,I (n:Int)]) (λn h1=>n<=Hg.length/\Hg.any (VA t.JV)=(Hg.drop n).any (VA t.JV)/\h1=h) (λn=>Hg.length-n) 0 rfl ⟨A7 _,rfl,rfl⟩ ?_;rintro n h1 ⟨Ù,ha,rfl⟩;rcases Bi n Hg.length with hlt|GX
    .have i1:(n:Int)<((3:Nat):Int):=by omega
     have z:(Hg.map Ca)[n]'(by rw[hlen];omega)=Ca Hg[n]:=Ax;have D:decide (EC t.JV=EC Hg[n])=VA t.JV Hg[n]:=rfl;rw[Ay hlt,Ru] at ha;simp only[Cf,bK,i1,Bv.FA hv (show n<(Hg.map Ca).length by rw[hlen];omega),z,Ca,(sr _ _ ht (C _ (AY hlt))).Bn rfl rfl,D,CI (Ab:n<9223372036854775807)];rw[Da];refine⟨λb=>?_,λb=>?_⟩;.rw[b,OL] at ha;rw[ha,OL,OL] at hq;rw[hq]
     .rw[b,I2] at ha;exact Bq.next (n+1) rfl ⟨hlt,ha,rfl⟩ Ab
    .have i1:¬(n:Int)<((3:Nat):Int):=by omega
     rw[AT GX,lN] at ha;rw[ha,I2] at hq;simp only[abS,i1];cases j:t.hs with
     |true=>rw[j] at hq;rw[e,r,o,d,m,j] at i;simp only[abS,c,i];rw[hq];simp
     |false=>
      rw[j] at hq;rw[e,r,o,d,m,j] at i u s;simp only[qA,qB] at u s hq;simp only[abS,↓reduceIte,c,i,u,s,CC,Nat.reduceLeDiff];rw[Da,Da];refine⟨λb=>?_,λb=>⟨λy=>?_,λy=>?_⟩⟩;.rw[hq,b];simp
      .rw[hq,y];simp
      .rw[hq,b,y];simp
end
def aMR{t:DH}{av:Aa}(hv:Bb t.Au av)(hl:t.Au.length<=1000000):∃eB,Bb t.Au eB/\∀h,B9 cx 23 [.agg (B1 t av)] h (.agg (B1 t eB)) h:=by obtain⟨u,e,hu⟩:=Bv.be (l:=([]:List A3)) (f:=A3.row) (v:= .slnil) (b:=40) (.inr ⟨rfl,rfl⟩) hv (by simp;have:AO=140737488355328:=rfl;omega);refine⟨u,hu,λh=>?_⟩;have hc:u.cells=[u]:=Bv.cells hu;rw[Ag,pg,t23];simp only[Cf,Nat.reduceLeDiff,↓reduceIte,B1,e,hc,AJ,Bt,LS,YL]
section
variable{h h':Ai}{bi:Nat}{b:BS}{F:Nat->Prop}{n o a:Nat}{t:DH}{av:Aa}{rule:Int}
def eP(d:rule=3\/rule=4\/rule=5\/rule=6\/rule=9)(hv:QK rule t=true)(c:t.k=2):t.name=aTB/\rule≠9:=by
 unfold QK at hv;have HW:t.ok:=by unfold DH.ok;omega
 rw[Ad (by simpa using HW),Ad Ab,Ad Ab,Ad Ab,Ad Ab,Ad Ab] at hv;split at hv;.have:=(Cq hv).1;omega
 .have:=Cq hv;exact⟨this.2.2.2,Ab⟩
def ey(c:rule=3\/rule=4\/rule=5\/rule=6\/rule=9)(hv:QK rule t=true):¬t.st [aTA]:=λhs=>by have h1:=(eP c hv hs.1).1;have h2:=hs.2;rw[h1] at h2;revert h2;decide+kernel
def qM(c:rule=3\/rule=4\/rule=5\/rule=6\/rule=9)(hv:QK rule t=true):¬t.st Hq:=λhs=>by have h1:=(eP c hv hs.1).1;have h2:=hs.2;rw[h1] at h2;revert h2;decide+kernel
def aHH(w:PB h bi b F)(g:Gz b (n+8*(4*(o+a+8)+10)+8*a+2000) o a)(ht:t.Sm)(hp:t.JV.length<=AO)(hv:Bb t.Au av)(hl:t.Au.length<=1000000)(h1:1<=rule)(p:rule<=9)(j:QK rule t=true):
  F9 h F 10 [Pt bi 0,.agg (I rule::B1 t av)] ff bi b:=by
 obtain⟨eB,Gm,ro⟩:=aMR hv hl;have d:=ro h;have e:=eo (qk:=eO) (b:=b) h1 p j;have hc:rule=1\/rule=2\/rule=3\/rule=4\/rule=5\/rule=6\/rule=7\/rule=8\/rule=9:=Ab;have k:=λl=>ey (t:=t) (rule:=rule) l j;have hg:=λl=>qM (t:=t) (rule:=rule) l j;have ge:∀{m},m<=8*(4*(o+a+8)+10)+8*a+2000->Gz b (n+m) o a:=λhm=>g.dn Ab;rcases hc with rfl|rfl|rfl|rfl|rfl|rfl|rfl|rfl|rfl
 .obtain⟨h2,i,r,c,f⟩:=aMO (n:=n) w (ge Ab) ht Gm (λh=>f75 t hp h);rw[show b.MD eO t=(b,false) from e] at r c;refine⟨h2,i,?_,c,f⟩;simp only[B1] at d r;rw[Ag,NY,xk];simp[abS,Nat.reduceLeDiff,↓reduceIte,B1,d.Ac,r.Ac]
 .obtain⟨h2,i,r,c,f⟩:=aMc (n:=n) w (ge Ab) ht Gm;rw[show b.GJ t=(b,false) from e] at r c;refine⟨h2,i,?_,c,f⟩;simp only[B1] at d r;rw[Ag,NY,xk];simp[abS,Nat.reduceLeDiff,↓reduceIte,B1,d.Ac,r.Ac]
 .obtain⟨h2,i,r,c,f⟩:=aMd (n:=n) w (ge Ab) ht Gm (λhs=>absurd hs (k Ab));rw[show b.GK t=(b,false) from e] at r c;refine⟨h2,i,?_,c,f⟩;simp only[B1] at d r;rw[Ag,NY,xk];simp[abS,Nat.reduceLeDiff,↓reduceIte,B1,d.Ac,r.Ac]
 .obtain⟨h2,i,r,c,f⟩:=eK (n:=n) w (ge Ab) ht Gm (λhs=>absurd hs (k Ab));rw[show b.EJ t=(b,false) from e] at r c;refine⟨h2,i,?_,c,f⟩;simp only[B1] at d r;rw[Ag,NY,xk];simp[abS,Nat.reduceLeDiff,↓reduceIte,B1,d.Ac,r.Ac]
 .obtain⟨h2,i,r,c,f⟩:=aMe (n:=n) w (ge Ab) ht Gm (λhs=>absurd hs (k Ab));rw[show b.GL t=(b,false) from e] at r c;refine⟨h2,i,?_,c,f⟩;simp only[B1] at d r;rw[Ag,NY,xk];simp[abS,Nat.reduceLeDiff,↓reduceIte,B1,d.Ac,r.Ac]
 .obtain⟨h2,i,r,c,f⟩:=aMg (n:=n) w (ge Ab) ht Gm (λhs=>absurd hs (hg Ab)) (λhs=>absurd hs (k Ab));rw[show b.HI t=(b,false) from e] at r c;refine⟨h2,i,?_,c,f⟩;simp only[B1] at d r;rw[Ag,NY,xk];simp[abS,Nat.reduceLeDiff,↓reduceIte,B1,d.Ac,r.Ac]
 .obtain⟨h2,i,r,c,f⟩:=wc (n:=n) w g ht Gm;rw[show b.E5 t=(b,false) from e] at r c;refine⟨h2,i,?_,c,f⟩;simp only[B1] at d r;rw[Ag,NY,xk];simp[abS,Nat.reduceLeDiff,↓reduceIte,B1,d.Ac,r.Ac]
 .obtain⟨h2,i,r,c,f⟩:=aMh (n:=n) w (ge Ab) ht Gm;rw[show b.N7 t=(b,false) from e] at r c;refine⟨h2,i,?_,c,f⟩;simp only[B1] at d r;rw[Ag,NY,xk];simp[abS,Nat.reduceLeDiff,↓reduceIte,B1,d.Ac,r.Ac]
 .obtain⟨h2,i,r,c,f⟩:=aHD (n:=n) w (g.dn (n':=n+4*a+1005) Ab) ht Gm (λm hk=>absurd rfl (eP Ab j hk).2);rw[show b.Ep t=(b,false) from e] at r c;refine⟨h2,i,?_,c,f⟩;simp only[B1] at d r;rw[Ag,NY,xk];simp[abS,Nat.reduceLeDiff,↓reduceIte,B1,d.Ac,r.Ac]
end
end Go.Am
end
