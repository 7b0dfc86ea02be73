/- Lemmas -/
import Derived.Test.YtemolpggcmbieaaGreatDoorZ28
set_option linter.all false
set_option maxRecDepth 100000
section
namespace Go.Am
open Go
section
variable{h h':Ah}{bi si:Nat}{b b':BS}{F F':Nat->Prop}{n o a:Nat}{t:DU}{av:Aa}
def aMq(w:SW h bi b F si t av)(g:Gz b (n+4*a+4) o a)(ht:t.Sm)(hv:A8 t.Av av):Fe h F 162 [Pt si 0] (.tuple []) bi (b.raw t):=by
 have u:Gz b (n+4) o a:=g.dn Ac;have g1:Gz b.CD (n+4+4*a) o a:=g.CD.dn Ac;unfold BS.raw;by_cases j:t.name=aUp;.rw[Af j];have l0:=w.B9;obtain⟨h1,x,i,p1,d⟩:=vj w u ht hv;have w1:=w.after p1 d;have l1:=w1.B9;obtain⟨r2,p2,e⟩:=aL8 p1 5;have f:=w1.after p2 e;have p:=f.B9;refine⟨_,_,?_,p2,d.trans e⟩;rw[Ae,Qb,pA];simp only[abS,l0,i.Ad,l1,r2,A6 j]
 rw[Ag j];by_cases k:t.name=aUt;.rw[Af k];have l0:=w.B9;obtain⟨h1,x,i,p1,d⟩:=XV w.pb u ht hv 2;have w1:=w.after p1 d;have l1:=w1.B9;obtain⟨r2,p2,e⟩:=uy p1 true;have f:=w1.after p2 e;have p:=f.B9;obtain⟨v,m,l⟩:=Kx p2 false;have r:=f.after m l;have l3:=r.B9;refine⟨_,_,?_,m,(d.trans e).trans l⟩;rw[Ae,Qb,pA];simp only[abS,l0,i.Ad,l1,r2,p,v,j,A6 k]
 rw[Ag k];by_cases q:t.name=aVn;.rw[Af q];have l0:=w.B9;obtain⟨h1,x,i,p1,d⟩:=I1 w.pb g;have w1:=w.after p1 d;have l1:=w1.B9;obtain⟨h2,C,r2,p2,e⟩:=CV p1 g1;have f:=w1.after p2 e;have p:=f.B9;obtain⟨v,m,l⟩:=Kx p2 false;have r:=f.after m l;have l3:=r.B9;obtain⟨D,E,B,z,y⟩:=XV m (g1.Bg.eq (c:={b.CD.Bg with fs:=false}) rfl rfl rfl rfl rfl) ht hv 3;have A:=r.after z y;have l4:=A.B9;refine⟨_,_,?_,z,((d.trans e).trans l).trans y⟩;rw[Ae,Qb,pA];simp only[abS,l0,i.Ad,l1,r2.Ad,p,v,l3,B.Ad,j,k,A6 q]
 rw[Ag q];by_cases s:t.name=aUL;.rw[Af s];have l0:=w.B9;obtain⟨i,p1,d⟩:=Kx w.pb false;have w1:=w.after p1 d;have l1:=w1.B9;obtain⟨h2,C,r2,p2,e⟩:=XV p1 (u.eq (c:={b with fs:=false}) rfl rfl rfl rfl rfl) ht hv 3;have f:=w1.after p2 e;have p:=f.B9;refine⟨_,_,?_,p2,d.trans e⟩;rw[Ae,Qb,pA];simp only[abS,l0,i,l1,r2.Ad,j,k,q,A6 s]
 .rw[Ag s];have l0:=w.B9;obtain⟨h1,x,i,p1,d⟩:=XV w.pb u ht hv 3;have w1:=w.after p1 d;have l1:=w1.B9;refine⟨_,_,?_,p1,d⟩;rw[Ae,Qb,pA];simp only[abS,l0,i.Ad,j,k,q,s]
def kT{nm:Ak}{l:List A7}{sp:Int}:(b.E5 nm l sp).mode=b.mode:=by
 unfold BS.E5;split
 .rename_i hs;have e:∀p,(b.Fz nm l sp p).mode=b.mode:=λp=>by unfold BS.Fz;rw[Af hs]
  simp only[e]
 .rfl
def ZU:∀{l:List Cp} {b:BS},(BS.Lv l b).2.mode=b.mode
 |[],b=>rfl
 |e::l,b=>by rw[BS.Lv];simp only;rw[ZU,kT]
def aMr(w:SW h bi b F si t av)(g:Gz b (n+4*a+4) o a)(ht:t.Sm)(hv:A8 t.Av av):Fe h F 174 [Pt si 0] (.tuple []) bi (b.TQ t):=by
 have g1:Gz b (n+4+4*a) o a:=g.dn Ac;have em:(b.Bg.Df t).mode=b.mode:=by unfold BS.Df;rw[kT];unfold BS.Bg;simp only;exact ZU
 unfold BS.TQ;by_cases u:b.mode=9;.rw[Af (.inl u)];have l0:=w.B9;obtain⟨h1,A,r,p1,f⟩:=CV w.pb g1;have w1:=w.after p1 f;have l1:=w1.B9;obtain⟨h2,z,r2,p2,e⟩:=ET p1 g1.Bg ht hv;have j:=w1.after p2 e;have s:=j.B9;obtain⟨q,l,d⟩:=Kx p2 false;have i:=j.after l d;have l3:=i.B9;simp only[em] at l3;obtain⟨p,k,c⟩:=E9 l 17;have m:=i.after k c;have l4:=m.B9;refine⟨_,_,?_,k,((f.trans e).trans d).trans c⟩;rw[Ae,N9,jK];simp only[abS,l0,r.Ad,l1,r2.Ad,s,q,l3,p,A6 u]
 by_cases v:b.mode=11;.rw[Af (.inr (.inl v))];have l0:=w.B9;obtain⟨h1,A,r,p1,f⟩:=CV w.pb g1;have w1:=w.after p1 f;have l1:=w1.B9;obtain⟨h2,z,r2,p2,e⟩:=ET p1 g1.Bg ht hv;have j:=w1.after p2 e;have s:=j.B9;obtain⟨q,l,d⟩:=Kx p2 false;have i:=j.after l d;have l3:=i.B9;simp only[em] at l3;obtain⟨p,k,c⟩:=E9 l 17;have m:=i.after k c;have l4:=m.B9;refine⟨_,_,?_,k,((f.trans e).trans d).trans c⟩;rw[Ae,N9,jK];simp only[abS,l0,r.Ad,l1,r2.Ad,s,q,l3,p,u,A6 v]
 by_cases x:b.mode=13;.rw[Af (.inr (.inr (.inl x)))];have l0:=w.B9;obtain⟨h1,A,r,p1,f⟩:=CV w.pb g1;have w1:=w.after p1 f;have l1:=w1.B9;obtain⟨h2,z,r2,p2,e⟩:=ET p1 g1.Bg ht hv;have j:=w1.after p2 e;have s:=j.B9;obtain⟨q,l,d⟩:=Kx p2 false;have i:=j.after l d;have l3:=i.B9;simp only[em] at l3;obtain⟨p,k,c⟩:=E9 l 17;have m:=i.after k c;have l4:=m.B9;refine⟨_,_,?_,k,((f.trans e).trans d).trans c⟩;rw[Ae,N9,jK];simp only[abS,l0,r.Ad,l1,r2.Ad,s,q,l3,p,u,v,A6 x]
 by_cases y:b.mode=14;.rw[Af (.inr (.inr (.inr (.inl y))))];have l0:=w.B9;obtain⟨h1,A,r,p1,f⟩:=CV w.pb g1;have w1:=w.after p1 f;have l1:=w1.B9;obtain⟨h2,z,r2,p2,e⟩:=ET p1 g1.Bg ht hv;have j:=w1.after p2 e;have s:=j.B9;obtain⟨q,l,d⟩:=Kx p2 false;have i:=j.after l d;have l3:=i.B9;simp only[em] at l3;obtain⟨p,k,c⟩:=E9 l 17;have m:=i.after k c;have l4:=m.B9;refine⟨_,_,?_,k,((f.trans e).trans d).trans c⟩;rw[Ae,N9,jK];simp only[abS,l0,r.Ad,l1,r2.Ad,s,q,l3,p,u,v,x,A6 y]
 by_cases B:b.mode=15;.rw[Af (.inr (.inr (.inr (.inr B))))];have l0:=w.B9;obtain⟨h1,A,r,p1,f⟩:=CV w.pb g1;have w1:=w.after p1 f;have l1:=w1.B9;obtain⟨h2,z,r2,p2,e⟩:=ET p1 g1.Bg ht hv;have j:=w1.after p2 e;have s:=j.B9;obtain⟨q,l,d⟩:=Kx p2 false;have i:=j.after l d;have l3:=i.B9;simp only[em] at l3;obtain⟨p,k,c⟩:=E9 l 17;have m:=i.after k c;have l4:=m.B9;refine⟨_,_,?_,k,((f.trans e).trans d).trans c⟩;rw[Ae,N9,jK];simp only[abS,l0,r.Ad,l1,r2.Ad,s,q,l3,p,u,v,x,y,A6 B]
 .rw[Ag (by simp[u,v,x,y,B])];have l0:=w.B9;obtain⟨h1,A,r,p1,f⟩:=CV w.pb g1;have w1:=w.after p1 f;have l1:=w1.B9;obtain⟨h2,z,r2,p2,e⟩:=ET p1 g1.Bg ht hv;have j:=w1.after p2 e;have s:=j.B9;obtain⟨q,l,d⟩:=Kx p2 false;have i:=j.after l d;have l3:=i.B9;simp only[em] at l3;obtain⟨p,k,c⟩:=E9 l 16;have m:=i.after k c;have l4:=m.B9;refine⟨_,_,?_,k,((f.trans e).trans d).trans c⟩;rw[Ae,N9,jK];simp only[abS,l0,r.Ad,l1,r2.Ad,s,q,l3,p,u,v,x,y,B]
def aMs(w:SW h bi b F si t av)(g:Gz b (n+4*a+4) o a)(ht:t.Sm)(hv:A8 t.Av av):Fe h F 166 [Pt si 0] (.tuple []) bi (b.TR t):=by
 have g1:Gz b (n+4+4*a) o a:=g.dn Ac;unfold BS.TR;cases p:Bf [aTO] (E4 b.AL) with
 |true=>rw[Af rfl];have l0:=w.B9;have j:=kN w.pb g;have e:=aDq (E4 b.AL) aTO h;rw[p] at e;obtain⟨h1,u,i,p1,d⟩:=OH w.pb g1;have w1:=w.after p1 d;have l1:=w1.B9;obtain⟨h2,s,r2,p2,c⟩:=CV p1 g1.IQ;have f:=w1.after p2 c;have m:=f.B9;obtain⟨v,x,r,l,k⟩:=ET p2 g1.IQ.Bg ht hv;have q:=f.after l k;have l3:=q.B9;refine⟨_,_,?_,l,(d.trans c).trans k⟩;rw[Ae,cP,À];simp only[abS,l0,j.Ad,e.Ad,i.Ad,l1,r2.Ad,m,r.Ad]
 |false=>rw[Ag Ax];have l0:=w.B9;have j:=kN w.pb g;have e:=aDq (E4 b.AL) aTO h;rw[p] at e;obtain⟨h1,u,i,p1,d⟩:=CV w.pb g1;have w1:=w.after p1 d;have l1:=w1.B9;obtain⟨h2,s,r2,p2,c⟩:=ET p1 g1.Bg ht hv;have f:=w1.after p2 c;have m:=f.B9;refine⟨_,_,?_,p2,d.trans c⟩;rw[Ae,cP,À];simp only[abS,l0,j.Ad,e.Ad,i.Ad,l1,r2.Ad]
def aMt(w:SW h bi b F si t av)(g:Gz b (n+4) o a)(ht:t.Sm)(hv:A8 t.Av av):Fe h F 163 [Pt si 0] (.tuple []) bi (b.pW t):=by
 unfold BS.pW;cases l:b.has [aUB] with
 |true=>
  rw[Af rfl];by_cases j:t.name=[114,112];.rw[Af (.inl j)];have l0:=w.B9;have d:=SI w g aUB;rw[l] at d;obtain⟨_,h1,m,f,p1,c⟩:=LH w.pb g aUI;have w1:=w.after p1 c;have l1:=w1.B9;obtain⟨h2,q,r2,p2,e⟩:=ET p1 (g.II Ct) ht hv;have i:=w1.after p2 e;have p:=i.B9;refine⟨_,_,?_,p2,c.trans e⟩;rw[Ae,Sl,da];simp only[abS,l0,d.Ad,f.Ad,l1,r2.Ad,A6 j]
  by_cases k:t.name=[114,116];.rw[Af (.inr k)];have l0:=w.B9;have d:=SI w g aUB;rw[l] at d;obtain⟨_,h1,m,f,p1,c⟩:=LH w.pb g aUI;have w1:=w.after p1 c;have l1:=w1.B9;obtain⟨h2,q,r2,p2,e⟩:=ET p1 (g.II Ct) ht hv;have i:=w1.after p2 e;have p:=i.B9;refine⟨_,_,?_,p2,c.trans e⟩;rw[Ae,Sl,da];simp only[abS,l0,d.Ad,f.Ad,l1,r2.Ad,j,A6 k]
  .rw[Ag (by simp[j,k])];have l0:=w.B9;have d:=SI w g aUB;rw[l] at d;obtain⟨_,h1,m,f,p1,c⟩:=LH w.pb g [];have w1:=w.after p1 c;have l1:=w1.B9;obtain⟨h2,q,r2,p2,e⟩:=ET p1 (g.II Ct) ht hv;have i:=w1.after p2 e;have p:=i.B9;refine⟨_,_,?_,p2,c.trans e⟩;rw[Ae,Sl,da];simp only[abS,l0,d.Ad,f.Ad,l1,r2.Ad,j,k]
 |false=>rw[Ag Ax];have l0:=w.B9;have d:=SI w g aUB;rw[l] at d;obtain⟨h1,m,f,p1,c⟩:=ET w.pb g ht hv;have w1:=w.after p1 c;have l1:=w1.B9;refine⟨_,_,?_,p1,c⟩;rw[Ae,Sl,da];simp only[abS,l0,d.Ad,f.Ad]
def aMu(w:SW h bi b F si t av)(g:Gz b (n+4*a+4) o a)(ht:t.Sm)(hv:A8 t.Av av):Fe h F 164 [Pt si 0] (.tuple []) bi (b.Oh t):=by
 have g1:Gz b (n+4+4*a) o a:=g.dn Ac;unfold BS.Oh;dsimp only;by_cases k:t.name=aUY
 .rw[Af k];cases c:t.sc with
  |true=>rw[Af rfl];have l0:=w.B9;rw[c] at l0;obtain⟨h1,s,j,p1,e⟩:=CV w.pb g1;have w1:=w.after p1 e;have l1:=w1.B9;rw[c] at l1;obtain⟨h2,r,r2,p2,d⟩:=eH p1 g1.Bg ht hv 3;have i:=w1.after p2 d;have f:=i.B9;rw[c] at f;obtain⟨u,v,q,m,l⟩:=OH p2 (g1.Bg.MG ht.Av ht.name);have p:=i.after m l;have l3:=p.B9;refine⟨_,_,?_,m,(e.trans d).trans l⟩;rw[Ae,Sn,t164];simp only[abS,l0,j.Ad,l1,r2.Ad,f,q.Ad,A6 k]
  |false=>rw[Ag Ax];have l0:=w.B9;rw[c] at l0;obtain⟨h1,s,j,p1,e⟩:=CV w.pb g1;have w1:=w.after p1 e;have l1:=w1.B9;rw[c] at l1;obtain⟨h2,r,r2,p2,d⟩:=eH p1 g1.Bg ht hv 3;have i:=w1.after p2 d;have f:=i.B9;rw[c] at f;refine⟨_,_,?_,p2,e.trans d⟩;rw[Ae,Sn,t164];simp only[abS,l0,j.Ad,l1,r2.Ad,f,A6 k]
 .rw[Ag k];cases c:t.sc with
  |true=>rw[Af rfl];have l0:=w.B9;rw[c] at l0;obtain⟨h1,s,j,p1,e⟩:=CV w.pb g1;have w1:=w.after p1 e;have l1:=w1.B9;rw[c] at l1;obtain⟨h2,r,r2,p2,d⟩:=eH p1 g1.Bg ht hv 2;have i:=w1.after p2 d;have f:=i.B9;rw[c] at f;obtain⟨u,v,q,m,l⟩:=OH p2 (g1.Bg.MG ht.Av ht.name);have p:=i.after m l;have l3:=p.B9;refine⟨_,_,?_,m,(e.trans d).trans l⟩;rw[Ae,Sn,t164];simp only[abS,l0,j.Ad,l1,r2.Ad,f,q.Ad,k]
  |false=>rw[Ag Ax];have l0:=w.B9;rw[c] at l0;obtain⟨h1,s,j,p1,e⟩:=CV w.pb g1;have w1:=w.after p1 e;have l1:=w1.B9;rw[c] at l1;obtain⟨h2,r,r2,p2,d⟩:=eH p1 g1.Bg ht hv 2;have i:=w1.after p2 d;have f:=i.B9;rw[c] at f;refine⟨_,_,?_,p2,e.trans d⟩;rw[Ae,Sn,t164];simp only[abS,l0,j.Ad,l1,r2.Ad,f,k]
def aHw(w:SW h bi b F si t av)(g:Gz b (n+1000) o a)(ht:t.Sm)(hv:A8 t.Av av):Fe h F 167 [Pt si 0] (.tuple []) bi (b.Of t):=by
 unfold BS.Of;by_cases j:b.Xa;.rw[Af (.inl j)];have l0:=w.B9;have d:=Rn w.pb g;rw[Al j] at d;refine⟨_,_,?_,w.pb,.refl⟩;rw[Ae,Qc,pB];simp only[abS,l0,d.Ad]
 by_cases m:b.AL=[];.rw[Af (.inr m)];have l0:=w.B9;have d:=Rn w.pb g;rw[Ai j] at d;have i:=XX w.pb;refine⟨_,_,?_,w.pb,.refl⟩;rw[Ae,Qc,pB];simp only[Ci,bK,l0,d.Ad,i.Ad,show((b.AL.length:Int)=0)=True from A6 (by rw[m];rfl)]
 have Ņ:¬(b.AL.length:Int)=0:=λe=>m (CN Ac);rw[Ag (by simp[j,m])];by_cases l:t.name=aTu;.rw[Af l];have l0:=w.B9;have d:=Rn w.pb g;rw[Ai j] at d;have i:=XX w.pb;have f:=ù w.pb 0;obtain⟨h1,x,p,p1,k⟩:=yI w.pb g ht hv (DK b.AL 0).node;have w1:=w.after p1 k;have l1:=w1.B9;refine⟨_,_,?_,p1,k⟩;rw[Ae,Qc,pB];simp only[abS,l0,d.Ad,i.Ad,f.Ad,p.Ad,Ņ,A6 l,UG,C8]
 rw[Ag l];cases r:b.Ll with
 |true=>rw[Af rfl];have l0:=w.B9;have d:=Rn w.pb g;rw[Ai j] at d;have i:=XX w.pb;have f:=vo w;rw[r] at f;obtain⟨p,p1,k⟩:=Kx w.pb false;have w1:=w.after p1 k;have l1:=w1.B9;obtain⟨h2,v,r2,p2,q⟩:=yI p1 (g.eq (c:={b with fs:=false}) rfl rfl rfl rfl rfl) ht hv (DK b.AL 1).node;have s:=w1.after p2 q;have u:=s.B9;refine⟨_,_,?_,p2,k.trans q⟩;rw[Ae,Qc,pB];simp only[abS,l0,d.Ad,i.Ad,f.Ad,p,l1,r2.Ad,Ņ,l]
 |false=>rw[Ag Ax];have l0:=w.B9;have d:=Rn w.pb g;rw[Ai j] at d;have i:=XX w.pb;have f:=vo w;rw[r] at f;refine⟨_,_,?_,w.pb,.refl⟩;rw[Ae,Qc,pB];simp only[abS,l0,d.Ad,i.Ad,f.Ad,Ņ,l]
def aMv(w:SW h bi b F si t av)(g:Gz b (n+4*a+5) o a)(ht:t.Sm):Fe h F 75 [Pt si 0] (.tuple []) bi (b.QK t):=by
 have g1:Gz b (n+5+4*a) o a:=g.dn Ac;unfold BS.QK;by_cases f:t.r=0;.rw[Af f];have l0:=w.B9;refine⟨_,_,?_,w.pb,.refl⟩;rw[Ae,cC,t75];simp only[abS,l0,A6 f]
 rw[Ag f];dsimp only;by_cases j:t.HA;.rw[Af j];have l0:=w.B9;obtain⟨h1,v,k,p1,d⟩:=CV w.pb g1;have w1:=w.after p1 d;have l1:=w1.B9;obtain⟨h2,u,r2,p2,c⟩:=XU p1 g1.Bg ht.r;have i:=w1.after p2 c;have l:=i.B9;have e:=Rm t av h2;rw[Al j] at e;refine⟨_,_,?_,p2,d.trans c⟩;rw[Ae,cC,t75];simp only[abS,l0,k.Ad,l1,r2.Ad,l,e.Ad,f]
 .rw[Ag j];have l0:=w.B9;obtain⟨h1,v,k,p1,d⟩:=CV w.pb g1;have w1:=w.after p1 d;have l1:=w1.B9;obtain⟨h2,u,r2,p2,c⟩:=XU p1 g1.Bg ht.r;have i:=w1.after p2 c;have l:=i.B9;have e:=Rm t av h2;rw[Ai j] at e;obtain⟨s,p,m⟩:=Kx p2 false;have q:=i.after p m;have l3:=q.B9;refine⟨_,_,?_,p,(d.trans c).trans m⟩;rw[Ae,cC,t75];simp only[abS,l0,k.Ad,l1,r2.Ad,l,e.Ad,s,f]
def aHx(w:SW h bi b F si t av)(g:Gz b n o a):Fe h F 176 [Pt si 0] (.tuple []) bi (b.JX t):=by
 unfold BS.JX;cases e:b.has [t.name] with
 |true=>rw[Af rfl];have l0:=w.B9;have c:=SI w g t.name;rw[e] at c;obtain⟨h1,i,f,p1,d⟩:=eO w g t.name [];have w1:=w.after p1 d;have l1:=w1.B9;refine⟨_,_,?_,p1,d⟩;rw[Ae,cV,Æ];simp only[Ci,l0,c.Ad,f.Ad]
 |false=>rw[Ag Ax];have l0:=w.B9;have c:=SI w g t.name;rw[e] at c;refine⟨_,_,?_,w.pb,.refl⟩;rw[Ae,cV,Æ];simp only[Ci,l0,c.Ad]
def aMw(w:SW h bi b F si t av)(g:Gz b n o a):Fe h F 179 [Pt si 0] (.tuple []) bi (b.Qg t):=by
 unfold BS.Qg;cases f:b.has [t.name] with
 |true=>rw[Af rfl];have l0:=w.B9;have c:=SI w g t.name;rw[f] at c;obtain⟨h1,m,j,p1,e⟩:=eO w g t.name [];have w1:=w.after p1 e;have l1:=w1.B9;obtain⟨_,h2,l,r2,p2,d⟩:=yJ p1 g.EI;have i:=w1.after p2 d;have k:=i.B9;refine⟨_,_,?_,p2,e.trans d⟩;rw[Ae,cX,È];simp only[abS,l0,c.Ad,j.Ad,l1,r2.Ad]
 |false=>rw[Ag Ax];have l0:=w.B9;have c:=SI w g t.name;rw[f] at c;refine⟨_,_,?_,w.pb,.refl⟩;rw[Ae,cX,È];simp only[Ci,l0,c.Ad]
def aMx(w:SW h bi b F si t av)(g:Gz b n o a):Fe h F 178 [Pt si 0] (.tuple []) bi b.Oi:=by
 have d:Ew h F (h++[.Ds]) F:=⟨Ax,λi hi _=>An hi,λ_ hf=> .inl hf⟩;have j:=uz aDt h;have w:=w.after w.pb.JL d;unfold BS.Oi;have c:=SG w.pb g 1 (CO (ws:=Da)) AI;have e0:b.OG 1 (Bf Da)=b.has Da:=rfl;rw[e0] at c;cases k:b.has Da with
 |true=>rw[k] at c;rw[Af rfl];have l0:=w.B9;obtain⟨_,h1,r,m,p1,f⟩:=LH w.pb g [];have w1:=w.after p1 f;have l1:=w1.B9;obtain⟨_,h2,q,r2,p2,e⟩:=eI p1 (g.II Ct) (CO (ws:=Da)) AI;have l:=w1.after p2 e;have p:=l.B9;refine⟨_,_,?_,p2,d.trans (f.trans e)⟩;rw[Ae,cW,Ç];simp only[abS,j.Ad,l0,c.Ad,m.Ad,l1,r2.Ad]
 |false=>rw[k] at c;rw[Ag Ax];have l0:=w.B9;refine⟨_,_,?_,w.pb,d⟩;rw[Ae,cW,Ç];simp only[abS,j.Ad,l0,c.Ad]
def aHy(w:SW h bi b F si t av)(g:Gz b n o a):Fe h F 175 [Pt si 0] (.bool (b.SF t).2) bi (b.SF t).1:=by
 unfold BS.SF;cases e:b.has [aTy] with
 |true=>rw[Af rfl];have l0:=w.B9;have c:=SI w g aTy;rw[e] at c;obtain⟨f,p1,d⟩:=E9 w.pb 19;have w1:=w.after p1 d;have l1:=w1.B9;refine⟨_,_,?_,p1,d⟩;rw[Ae,cU,Å];simp only[abS,l0,c.Ad,f,l1]
 |false=>rw[Ag Ax];have l0:=w.B9;have c:=SI w g aTy;rw[e] at c;refine⟨_,_,?_,w.pb,.refl⟩;rw[Ae,cU,Å];simp only[abS,l0,c.Ad]
def aMy(w:SW h bi b F si t av)(g:Gz b n o a):Fe h F 181 [Pt si 0] (.tuple []) bi (b.VC t):=by
 unfold BS.VC;by_cases f:b.Xa;.rw[Af f];have l0:=w.B9;have d:=Rn w.pb g;rw[Al f] at d;obtain⟨h1,z,e,p1,c⟩:=aHx w g;have w1:=w.after p1 c;have l1:=w1.B9;refine⟨_,_,?_,p1,c⟩;rw[Ae,Sp,dd];simp only[abS,l0,d.Ad,e.Ad]
 rw[Ag f];have g1:Gz {b with HQ:=0} n o a:=g.eq rfl rfl rfl rfl rfl;by_cases j:b.HQ=0;.rw[Ag (by simp[j])];have l0:=w.B9;have d:=Rn w.pb g;rw[Ai f] at d;obtain⟨e,p1,c⟩:=eJ w.pb 0;have w1:=w.after p1 c;have l1:=w1.B9;refine⟨_,_,?_,p1,c⟩;rw[Ae,Sp,dd];simp only[abS,l0,d.Ad,e,l1,A6 j,CA]
 cases q:b.OG 1 (BU b.HQ) with
 |true=>rw[Af ⟨j,rfl⟩];have l0:=w.B9;have d:=Rn w.pb g;rw[Ai f] at d;obtain⟨e,p1,c⟩:=eJ w.pb 0;have w1:=w.after p1 c;have l1:=w1.B9;have i:=kM p1 g1 1 b.HQ;rw[show({b with HQ:=0}:BS).OG 1 (BU b.HQ)=true from q] at i;obtain⟨_,h2,y,r2,p2,l⟩:=LH p1 g1 [];have m:=w1.after p2 l;have u:=m.B9;obtain⟨_,v,x,s,p,k⟩:=kL p2 (g1.II (lo:=DV (EB []) Db b.AL) Ct) b.HQ;have r:=m.after p k;have l3:=r.B9;refine⟨_,_,?_,p,(c.trans l).trans k⟩;rw[Ae,Sp,dd];simp only[abS,l0,d.Ad,e,l1,r2.Ad,u,s.Ad,j,CA,i.Ad]
 |false=>rw[Ag Ax];have l0:=w.B9;have d:=Rn w.pb g;rw[Ai f] at d;obtain⟨e,p1,c⟩:=eJ w.pb 0;have w1:=w.after p1 c;have l1:=w1.B9;have i:=kM p1 g1 1 b.HQ;rw[show({b with HQ:=0}:BS).OG 1 (BU b.HQ)=false from q] at i;refine⟨_,_,?_,p1,c⟩;rw[Ae,Sp,dd];simp only[abS,l0,d.Ad,e,l1,j,CA,i.Ad]
def aHz(w:SW h bi b F si t av)(g:Gz b (n+1004) o a)(ht:t.Sm)(hv:A8 t.Av av)(f:¬t.st [aTu]):Fe h F 153 [Pt si 0] (.bool (b.DH t).2) bi (b.DH t).1:=by have l0:=w.B9;obtain⟨h1,i,d,p1,c⟩:=eM w.pb g ht hv (λe=>absurd e f);have w1:=w.after p1 c;have l1:=w1.B9;refine⟨_,_,?_,p1,c⟩;rw[Ae,uT,aBq];simp only[abS,l0,d.Ad]
def aMz(w:SW h bi b F si t av)(g:Gz b (n+8*(4*(o+8)+10)) o a):Fe h F 177 [Pt si 0] (.tuple []) bi (b.DN t.name):=by have l0:=w.B9;obtain⟨h1,e,d,p1,c⟩:=XW w.pb g t.name;have w1:=w.after p1 c;have l1:=w1.B9;refine⟨_,_,?_,p1,c⟩;rw[Ae,u9,aBy];simp only[abS,l0,d.Ad]
def aMA(x:Aa):Ca cx 161 [x] h ff h:=by rw[Ae,uZ,aBw];simp only[Ci]
def aMB(w:SW h bi b F si t av)(g:Gz b (n+4) o a):Fe h F 180 [Pt si 0] (.tuple []) bi (b.Oj t):=by
 unfold BS.Oj;dsimp only;by_cases e:t.name=[112]
 .rw[Af e,Af e];have c:=SG w.pb g 3 (CO (ws:=[t.name])) Ax;cases f:b.OG 3 (Bf [t.name]) with
  |true=>rw[f] at c;rw[Af rfl];have l0:=w.B9;obtain⟨h1,k,i,p1,d⟩:=eO w g t.name t.name;have w1:=w.after p1 d;have l1:=w1.B9;refine⟨_,_,?_,p1,d⟩;rw[Ae,Oa,jL];simp only[abS,l0,i.Ad,A6 e,c.Ad,kQ]
  |false=>rw[f] at c;rw[Ag Ax];have l0:=w.B9;have p:=u_ [112] h;obtain⟨h1,k,i,p1,d⟩:=ET (t:=Mm [112]) (av:= .slnil) w.pb g (Iz AI) (.inr ⟨rfl,rfl⟩);have w1:=w.after p1 d;have l1:=w1.B9;obtain⟨h2,r,r2,p2,l⟩:=eO w1 (g.MG (Iz AI).Av (Iz AI).name) t.name t.name;have m:=w1.after p2 l;have q:=m.B9;refine⟨_,_,?_,p2,d.trans l⟩;rw[Ae,Oa,jL];simp only[abS,l0,p.Ad,i.Ad,r2.Ad,A6 e,c.Ad,kQ,CA,C8]
 rw[Ag e,Ag e];by_cases j:t.name=[108,105]
 .rw[Af j];have c:=SG w.pb g 2 (CO (ws:=[t.name])) Ax;cases f:b.OG 2 (Bf [t.name]) with
  |true=>rw[f] at c;rw[Af rfl];have l0:=w.B9;obtain⟨h1,k,i,p1,d⟩:=eO w g t.name t.name;have w1:=w.after p1 d;have l1:=w1.B9;refine⟨_,_,?_,p1,d⟩;rw[Ae,Oa,jL];simp only[abS,l0,i.Ad,e,A6 j,c.Ad,kQ]
  |false=>rw[f] at c;rw[Ag Ax];have l0:=w.B9;refine⟨_,_,?_,w.pb,.refl⟩;rw[Ae,Oa,jL];simp only[abS,l0,eq_false e,c.Ad,A6 j,kQ,CA]
 .rw[Ag j];have c:=SG w.pb g 1 (CO (ws:=[t.name])) Ax;cases f:b.OG 1 (Bf [t.name]) with
  |true=>rw[f] at c;rw[Af rfl];have l0:=w.B9;obtain⟨h1,k,i,p1,d⟩:=eO w g t.name t.name;have w1:=w.after p1 d;have l1:=w1.B9;refine⟨_,_,?_,p1,d⟩;rw[Ae,Oa,jL];simp only[abS,l0,i.Ad,e,j,c.Ad,kQ]
  |false=>rw[f] at c;rw[Ag Ax];have l0:=w.B9;refine⟨_,_,?_,w.pb,.refl⟩;rw[Ae,Oa,jL];simp only[abS,l0,e,c.Ad,j,kQ,CA]
def SW.aDv(w:SW h bi b F si t av)(t':DU)(YH:Aa):CH h 12 (Pt si 1) (.agg (B2 t' YH))=some (h.set si (.cells (Pt bi 0::B2 t' YH)))/\SW (h.set si (.cells (Pt bi 0::B2 t' YH))) bi b F si t' YH/\Ew h (λi=>F i\/i=si) (h.set si (.cells (Pt bi 0::B2 t' YH))) (λi=>F i\/i=si):=by
 have hl:=(Aj.1 w.sc).1;refine⟨by simp only[CH,w.sc];rfl,⟨w.pb.DT λi hi=>?_,by rw[AA hl],w.no⟩,⟨Ax,λi _ hn=>?_,λ_ h=> .inl h⟩⟩;.exact Ao λe=>w.no (by rw[show si=i from e];exact hi)
 .exact Ao λe=>hn (.inr (show i=si from e.symm))
def aMC(w:SW h bi b F si t av)(g:Gz b (n+4*a+4) o a):vn h F si 182 [Pt si 0] (.tuple []) bi (b.empty (Mm [98,114])):=by have f:=u_ [98,114] h;obtain⟨s0,w,d⟩:=w.aDv (Mm [98,114]) .slnil;obtain⟨h1,i,e,p1,c⟩:=aHv w g (Iz AI) (.inr ⟨rfl,rfl⟩);refine⟨h1,i,?_,p1,d.trans c⟩;rw[Ae,vA,aBz];simp only[Ci,f.Ad,s0,e.Ad]
def aHA{c n:Nat}{m:Option Nat}{ps:List PN}{A:Ar}{e x:Int}(w:PA h c n m ps A)(j:Mi A)(ok:EY A e)(hx:A.has x):
  ∃h' Mj,Ca cx 244 [Pt c 0,I x] h (I 0) h'/\PA h' c n m Mj (A.cut x)/\Ew h (λi=>i∈FA c n m ps) h' (λi=>i∈FA c n m Mj):=by
 have d:=Ri (x:=x) w;rw[Af hx] at d;obtain⟨h1,YF,g,w1,f⟩:=ļ w j ok hx;refine⟨h1,YF,?_,w1,f⟩;rw[Ae,wW,aCl];simp only[abS,Gl,d.Ad,g.Ad,CA]
def aHB(w:PB h bi b F)(g:Gz b n o a){x:Int}(hx:b.a.has x):∃d,Bi h none (Pt bi 0)=some (Pt d 0)/\Fe h F 244 [Pt d 0,I x] (I 0) bi {b with a:=b.a.cut x}:=by
 obtain⟨d,i,c,tt,G,w,hc,rfl⟩:=w;obtain⟨h',j,r,w',x'⟩:=w.step (R:=λh'=>Ca cx 244 [Pt d 0,I x] h (I 0) h') λn m ps f=>by obtain⟨h1,YF,r,w1,e⟩:=aHA f g.rm.UY g.ok.ok hx;exact⟨h1,n,m,YF,r,w1,e⟩
 exact⟨d,w.l0,h',_,r,⟨d,i,c,tt,j,w',hc,rfl⟩,x'⟩
def aMD(w:SW h bi b F si t av)(g:Gz b (n+4) o a)(ht:t.Sm)(hv:A8 t.Av av):Fe h F 168 [Pt si 0] (.tuple []) bi (b.Kw t):=by
 unfold BS.Kw;cases e:b.Ll with
 |false=>rw[Af (.inl rfl)];have l0:=w.B9;have c:=vo w;rw[e] at c;refine⟨_,_,?_,w.pb,.refl⟩;rw[Ae,Vt,qw];simp only[abS,l0,c.Ad]
 |true=>
 rcases Bool.eq_false_or_eq_true b.fs with l|l
 rotate_left;.rw[Af (.inr l)];have l0:=w.B9;have c:=vo w;rw[e] at c;rw[l] at l0;refine⟨_,_,?_,w.pb,.refl⟩;rw[Ae,Vt,qw];simp only[abS,l0,c.Ad]
 .rw[Ag (by simp[l])];have hi:=g.ok.op _ (UE e);have l0:=w.B9;rw[l] at l0;have c:=vo w;rw[e] at c;obtain⟨I,E,h1,u,C,p1,v⟩:=aHB w.pb g hi.1;have w1:=w.after p1 v;have g1:Gz {b with a:=b.a.cut (DK b.AL 1).node} (n+4) o a:=⟨g.ok.IH (bV g.ok.ok hi.1 (by rw[hi.2.1];decide)) oJ,g.rm.IH kK,g.AL,g.AY⟩;have aRX:2<=b.AL.length:=by unfold BS.Ll at e;simp only[AO,B4] at e;exact e.1
  have Pb:Ev cx 168 [Pt si 0] h λr h'=>r= .tuple []/\∃F',PB h' bi {({b with a:=b.a.cut (DK b.AL 1).node,AL:=b.AL.take 1}:BS).Df t with mode:=20} F'/\Ew h F h' F':=by
   unfold Ev;rw[Vt,qw];simp only[abS,l0,c.Ad,E,C.Ad];refine Ex (i:=0) (λn:Nat=>[]) (λn h2=>1<=n/\n<=b.AL.length/\∃d,PB h2 bi {b with a:=b.a.cut (DK b.AL 1).node,AL:=b.AL.take n} d/\Ew h1 u h2 d) (λn=>n) (λn h2=>∃d,PB h2 bi {b with a:=b.a.cut (DK b.AL 1).node,AL:=b.AL.take 1} d/\Ew h1 u h2 d) b.AL.length rfl ⟨Ac,Ab _,u,by rw[BZ];exact p1,.refl⟩ ?_ ?_
   .rintro j h2 ⟨RN,hn,d,p2,f⟩;have p:=w1.after p2 f;have q:=p.B9;have ln:=XX p2;have x:(b.AL.take j).length=j:=by rw[AB];omega
    simp only[x] at ln;have g2:Gz {b with a:=b.a.cut (DK b.AL 1).node,AL:=b.AL.take j} (n+4) (o+1) a:=(g1.le Ac Ac (Ab _)).II (Ch _ _);by_cases hk:j=1;.subst hk;simp only[abS,q,ln.Ad,(AI:¬(1:Int)<((1:Nat):Int))];exact .ID 1 rfl ⟨d,p2,f⟩
    .obtain⟨G,y,s,k,m⟩:=OH p2 g2;have H:({b with a:=b.a.cut (DK b.AL 1).node,AL:=b.AL.take j}:BS).IQ={b with a:=b.a.cut (DK b.AL 1).node,AL:=b.AL.take (j-1)}:=by unfold BS.IQ;simp only[x];rw[Ag Ac,F6,CG Ac]
     rw[H] at k;simp only[abS,q,ln.Ad,(Ac:(1:Int)<(j:Int)),s.Ad];exact .next (j-1) rfl ⟨Ac,Ac,y,k,f.trans m⟩ Ac
   .rintro j h2 ⟨d,p2,f⟩;have p:=w1.after p2 f;have q:=p.B9;have g2:Gz {b with a:=b.a.cut (DK b.AL 1).node,AL:=b.AL.take 1} (n+4) o a:=g1.II (Ch _ _);obtain⟨G,y,s,k,m⟩:=ET p2 g2 ht hv;have A:=p.after k m;have l3:=A.B9;obtain⟨B,D,z⟩:=E9 k 20;simp only[abS,q,s.Ad,l3,B];exact⟨_,rfl,rfl,_,D,((v.trans f).trans m).trans z⟩
  obtain⟨r,h',hr,rfl,F',hp,hx⟩:=Pb.ret;exact⟨h',F',hr,hp,hx⟩
end
def kr(p:Ak×Aa):Aa×Aa:=(.str p.1,p.2)
def kf(s:Ak):List (Ak×Aa)->Option Aa
 |[]=>none
 |(t,v)::l=>if s=t then some v else kf s l
def kp(s:Ak)(v:Aa):List (Ak×Aa)->List (Ak×Aa)
 |[]=>[(s,v)]
 |(t,u)::l=>if s=t then(s,v)::l else(t,u)::kp s v l
def Ň{s t:Ak}{v:Aa}:∀{l:List (Ak×Aa)},kf t (kp s v l)=if t=s then some v else kf t l
 |[]=>rfl
 |(x,u)::l=>by
  unfold kp;by_cases h:s=x;.rw[Af h];unfold kf;subst h;split<;>rfl
  .rw[Ag h];unfold kf;rw[Ň];by_cases h1:t=x;.subst h1;rw[Af rfl,Af rfl,Ag (Dr h)]
   .rw[Ag h1,Ag h1]
def kU{s:Ak}:∀{l:List (Ak×Aa)},Ry s (l.map kr)=some (kf s l)
 |[]=>rfl
 |(x,u)::l=>by
  simp only[A0,kr,Ry,kf];split;.rfl
  .exact kU
def yS{s:Ak}{v:Aa}:∀{l:List (Ak×Aa)},MZ s v (l.map kr)=some ((kp s v l).map kr)
 |[]=>rfl
 |(x,u)::l=>by
  simp only[A0,kr,MZ,kp];split;.rfl
  .rw[show(List.map kr l)=l.map kr from rfl,yS];rfl
def ZV{s:Ak}:∀{l:List (Ak×Aa)} {i:Nat},kf s l=none->QM s (l.map kr) i=some none
 |[],_,_=>rfl
 |(x,u)::l,i,h=>by
  unfold kf at h;by_cases e:s=x;.rw[Af e] at h;cases h
  .rw[Ag e] at h;simp only[A0,kr,QM,Ag e];exact ZV h
def vp{s t:Ak}{v:Aa}:∀{l:List (Ak×Aa)},kf s l=none->kf t (l++[(s,v)])=if t=s then some v else kf t l
 |[],_=>rfl
 |(x,u)::l,h=>by
  unfold kf at h;by_cases e:s=x;.rw[Af e] at h;cases h
  .rw[Ag e] at h;simp only[CC,kf];rw[vp h];by_cases a:t=x;.subst a;rw[Af rfl,Af rfl,Ag (Dr e)]
   .rw[Ag a,Ag a]
def KM(h:Ah)(id:Nat)(d:Ak->Option Aa):Prop:=∃l,h[id]?=some (.map (l.map kr))/\∀s,kf s l=d s
def Fr(id:Nat)(h h':Ah):Prop:=h.length<=h'.length/\∀i,i<h.length->i≠id->h'[i]?=h[i]?
def Fr.refl{id:Nat}{h:Ah}:Fr id h h:=⟨Ab _,λ_ _ _=>rfl⟩
def Fr.trans{id:Nat}{h h1 h2:Ah}(a:Fr id h h1)(b:Fr id h1 h2):Fr id h h2:=⟨Bp a.1 b.1,λi hi hn=>(b.2 i (IK hi a.1) hn).trans (a.2 i hi hn)⟩
def Fr.set{id:Nat}{h:Ah}{o:Ej}:Fr id h (h.set id o):=⟨Ax,λi _ hn=>Ao (Dr hn)⟩
def Fr.JL{id:Nat}{h u:Ah}:Fr id h (h++u):=⟨Ax,λi hi _=>An hi⟩
section
variable{h:Ah}{id:Nat}{d:Ak->Option Aa}{s:Ak}{v:Aa}
def KM.lt(w:KM h id d):id<h.length:=let⟨_,hl,_⟩:=w;(Aj.1 hl).1
def KM.JL{u:Ah}(w:KM h id d):KM (h++u) id d:=let⟨l,hl,hd⟩:=w;⟨l,by rw[An w.lt];exact hl,hd⟩
def KM.set(w:KM h id d)(s:Ak)(v:Aa):∃h1,Qs h (.map (some id)) (.str s) v=some h1/\KM h1 id (λt=>if t=s then some v else d t)/\Fr id h h1:=by have hlt:=w.lt;obtain⟨l,hl,hd⟩:=w;refine⟨h.set id (.map ((kp s v l).map kr)),by simp only[Qs,hl,yS,Bt],⟨kp s v l,by rw[AA hlt],λt=>?_⟩,.set⟩;rw[Ň];simp only[hd]
def KM.get(w:KM h id d)(s:Ak):Oo h .nilFunc false (.map (some id)) (.str s)=some ((d s).getD .nilFunc):=by obtain⟨l,hl,hd⟩:=w;simp only[Oo,S4,hl,kU,Bt,hd];cases d s<;>rfl
def KM.entry(w:KM h id d)(s:Ak)(hs:d s=none)(v:Aa):∃h0 h1 n v0,DC (.VE .nilFunc) h [.map (some id),.str s]=some (h0,.tuple [v0,I n])/\DC .Kf h0 [.map (some id),I n,v]=some (h1,.bool true)/\KM h1 id (λt=>if t=s then some v else d t)/\Fr id h h1:=by
 have hlt:=w.lt;obtain⟨l,hl,hd⟩:=w;have h0:kf s l=none:=(hd s).trans hs;refine⟨h.set id (.map (l.map kr++[(.str s,.nilFunc)])),h.set id (.map ((l++[(s,v)]).map kr)),(l.map kr).length,.nilFunc,?_,?_,⟨l++[(s,v)],by rw[AA hlt],λt=>?_⟩,.set⟩;.simp only[DC,Ve,hl,ZV h0,Bt]
 .simp only[DC,RA,AA hlt,BH,Int.natCast_nonneg,BD,Bn (Ab _),DB,Il,Md,BL _ _ (Ab _),eU,BP,A0,Dc,kr]
 .rw[vp h0];simp only[hd]
def lk:List (List Ak×Aa)->Ak->Option Aa
 |[],_=>none
 |(ws,v)::l,s=>if s∈ws then some v else lk l s
def KM.eq{a:Ak->Option Aa}(w:KM h id d)(e:∀s,d s=a s):KM h id a:=let⟨l,hl,hd⟩:=w;⟨l,hl,λs=>(hd s).trans (e s)⟩
def KM.push{L:List (List Ak×Aa)}(w:KM h id (λt=>if t=s then some v else lk L t)):KM h id (lk (([s],v)::L)):=w.eq λt=>by simp only[lk,AU]
def Ok{l:Ak}{ws:List Ak}{L:List (List Ak×Aa)}(x:J9 l ws)(w:KM h id (lk L))(fv:Aa):∃h1,Ca cx 152 [.map (some id),.str l,fv] h (.tuple []) h1/\KM h1 id (lk ((ws,fv)::L))/\Fr id h h1:=by
 have hf:=x.few;have Pb:Ev cx 152 [.map (some id),.str l,fv] h λr h1=>r= .tuple []/\KM h1 id (lk ((ws,fv)::L))/\Fr id h h1:=by
  unfold Ev;rw[uS,aBp];have hv:HN ws (.sl 1 (ws.map Cc)):=CO;have hl:(ws.map Cc).length=ws.length:=As ..;simp only[Ci,(uz x h).Ad,Bz.Ha hv];refine Ex (i:=0) (λn:Nat=>[I (n:Int)]) (λn h1=>n<=ws.length/\KM h1 id (λs=>if s∈ws.take n then some fv else lk L s)/\Fr id h h1) (λn=>ws.length-n) (λn h1=>KM h1 id (lk ((ws,fv)::L))/\Fr id h h1) 0 rfl ⟨Bd _,w.JL.eq λs=>Ax,.JL⟩ ?_ ?_
  .rintro n h1 ⟨hn,a,f1⟩;by_cases hlt:n<ws.length
   .have f:(ws.map Cc)[n]'(by rw[hl];exact hlt)=[.str ws[n]]:=by simp[Cc]
    obtain⟨h2,c,e,f2⟩:=a.set ws[n] fv;simp only[Ci,bK,(Ac:(n:Int)<(ws.length:Int)),Bz.FH hv (show n<(ws.map Cc).length by rw[hl];exact hlt),f,c,CR (Ac:n<9223372036854775807)];exact .next (n+1) rfl ⟨hlt,e.eq λs=>by
     simp only[AS hlt,Aq,AU];by_cases b:s=ws[n];.simp[b]
     .simp[b],f1.trans f2⟩ Ac
   .simp only[abS,(Ac:¬(n:Int)<(ws.length:Int))];exact .ID n rfl ⟨a.eq λs=>by rw[Be Ac];rfl,f1⟩
  .rintro n h1 ⟨a,f1⟩;simp only[Ci];exact⟨_,rfl,rfl,a,f1⟩
 obtain⟨r,h1,hr,rfl,a,f1⟩:=Pb.ret;exact⟨h1,hr,a,f1⟩
def qf(k:Nat):Aa:= .func (.func 237) [] [.BW [.func (.func k) [] []]]
def K5(k:Nat)(h:Ah):Ca cx 154 [.func (.func k) [] []] h (qf k) h:=by rw[Ae,uU,aBr];simp only[Ci,qf]
def aHC{k:Nat}{x:Aa}{h':Ah}(hk:k<=99999)(r:Ca cx k [x] h (.tuple []) h'):Ca cx 237 [x,.BW [.func (.func k) [] []]] h ff h':=by rw[Ae,wO,aCe];simp only[Ci,Cz,Bq,Af hk,r.Ad]
def D0:List (List Ak×Aa):=[(HR,.func (.func 153) [] []),(eB,qf 155),(Da,qf 156),(ð,qf 157),(ñ,qf 158),(kJ,qf 159),(eC,qf 160),(yE,.func (.func 161) [] []),(ò,qf 162),(yF,qf 163),(ó,qf 164),(yG,qf 165),(ô,qf 166),(PG,qf 167),([aTD],qf 168),([aUg],qf 169),([aTw],qf 170),([[97]],qf 171),([aTT],qf 172),([aTL],qf 173),([aT9],qf 174)]
def aME(h:Ah):∃h1,Ca cx 76 [] h (.map (some h.length)) h1/\KM h1 h.length (lk D0.reverse)/\Fr h.length h h1:=by
 have Z:KM (h++[.map []]) h.length (lk []):=⟨[],Ax,λs=>rfl⟩;have e0:Fr h.length h (h++[.map []]):= .JL;obtain⟨h1,J,Y,e1⟩:=Ok (MD D8:J9 aTs HR) Z (.func (.func 153) [] []);try dsimp only at J
 obtain⟨h2,r2,X,e2⟩:=Ok (MD D8:J9 aTt eB) Y (qf 155);try dsimp only at r2
 obtain⟨h3,I,W,e3⟩:=Ok (MD D8:J9 aTG Da) X (qf 156);try dsimp only at I
 obtain⟨h4,H,V,e4⟩:=Ok (MD D8:J9 aUQ ð) W (qf 157);try dsimp only at H
 obtain⟨h5,G,U,e5⟩:=Ok (MD D8:J9 aTH ñ) V (qf 158);try dsimp only at G
 obtain⟨h6,F,T,e6⟩:=Ok (MD D8:J9 aTM kJ) U (qf 159);try dsimp only at F
 obtain⟨h7,E,S,e7⟩:=Ok (MD D8:J9 aTz eC) T (qf 160);try dsimp only at E
 obtain⟨h8,D,R,e8⟩:=Ok (MD D8:J9 aTA yE) S (.func (.func 161) [] []);try dsimp only at D
 obtain⟨h9,C,Q,e9⟩:=Ok (MD D8:J9 aTR ò) R (qf 162);try dsimp only at C
 obtain⟨YE,xm,IS,B⟩:=Ok (MD D8:J9 aUR yF) Q (qf 163);try dsimp only at xm
 obtain⟨bE,e,MC,A⟩:=Ok (MD D8:J9 aVe ó) IS (qf 164);try dsimp only at e
 obtain⟨h12,c,Nq,z⟩:=Ok (MD D8:J9 aVf yG) MC (qf 165);try dsimp only at c
 obtain⟨h13,b,Oe,y⟩:=Ok (MD D8:J9 aUy ô) Nq (qf 166);try dsimp only at b
 obtain⟨h14,a,QI,x⟩:=Ok (MD D8:J9 aU7 PG) Oe (qf 167);try dsimp only at a
 obtain⟨P,h15,N,L,m,t15,TL,w⟩:=QI.entry aTD D8 (qf 168);replace TL:=TL.push;obtain⟨h16,l,Vb,u⟩:=TL.set aUg (qf 169);replace Vb:=Vb.push;obtain⟨h17,k,XN,t⟩:=Vb.set aTw (qf 170);replace XN:=XN.push;obtain⟨O,h18,M,K,j,S1,Uz,r⟩:=XN.entry [97] D8 (qf 171);replace Uz:=Uz.push;obtain⟨h19,i,dX,q⟩:=Uz.set aTT (qf 172);replace dX:=dX.push;obtain⟨h20,g,kF,p⟩:=dX.set aTL (qf 173);replace kF:=kF.push;obtain⟨n,f,uh,o⟩:=kF.set aT9 (qf 174);replace uh:=uh.push;refine⟨n,?_,uh,((((((((((((((((((((e0.trans e1).trans e2).trans e3).trans e4).trans e5).trans e6).trans e7).trans e8).trans e9).trans B).trans A).trans z).trans y).trans x).trans w).trans u).trans t).trans r).trans q).trans p).trans o⟩;rw[Ae,qj,t76];simp only[abS,Nat.reduceLeDiff,↓reduceIte,J.Ad,r2.Ad,(K5 155 _).Ad,I.Ad,(K5 156 _).Ad,H.Ad,(K5 157 _).Ad,G.Ad,(K5 158 _).Ad,F.Ad,(K5 159 _).Ad,E.Ad,(K5 160 _).Ad,D.Ad,C.Ad,(K5 162 _).Ad,xm.Ad,(K5 163 _).Ad,e.Ad,(K5 164 _).Ad,c.Ad,(K5 165 _).Ad,b.Ad,(K5 166 _).Ad,a.Ad,(K5 167 _).Ad,m,t15,(K5 168 _).Ad,l,(K5 169 _).Ad,k,(K5 170 _).Ad,j,S1,(K5 171 _).Ad,i,(K5 172 _).Ad,g,(K5 173 _).Ad,f,(K5 174 _).Ad]
def OP:List (List Ak×Aa):=[([aTv],.func (.func 153) [] []),([aTy],.func (.func 175) [] []),([aTu],.func (.func 175) [] []),(eD,qf 176),(õ,qf 177),(Da,qf 178),(kJ,qf 179),(yH,qf 180),([aUg],qf 181),([[98,114]],qf 182)]
def aMG(h:Ah):∃h1,Ca cx 77 [] h (.map (some h.length)) h1/\KM h1 h.length (lk OP.reverse)/\Fr h.length h h1:=by
 have y:KM (h++[.map []]) h.length (lk []):=⟨[],Ax,λs=>rfl⟩;have e0:Fr h.length h (h++[.map []]):= .JL;obtain⟨h1,q,f,H⟩:=y.set aTv (.func (.func 153) [] []);replace f:=f.push;obtain⟨h2,p,e,G⟩:=f.set aTy (.func (.func 175) [] []);replace e:=e.push;obtain⟨O,o,c,F⟩:=e.set aTu (.func (.func 175) [] []);replace c:=c.push;obtain⟨N,m,x,E⟩:=Ok (MD D8:J9 aTr eD) c (qf 176);try dsimp only at m
 obtain⟨M,l,w,D⟩:=Ok (MD D8:J9 aTB õ) x (qf 177);try dsimp only at l
 obtain⟨L,k,u,C⟩:=Ok (MD D8:J9 aTG Da) w (qf 178);try dsimp only at k
 obtain⟨K,j,t,B⟩:=Ok (MD D8:J9 aTM kJ) u (qf 179);try dsimp only at j
 obtain⟨J,i,r,A⟩:=Ok (MD D8:J9 aU2 yH) t (qf 180);try dsimp only at i
 obtain⟨I,n,b,z⟩:=r.set aUg (qf 181);replace b:=b.push;obtain⟨YE,a,IS,g⟩:=b.set [98,114] (qf 182);replace IS:=IS.push;refine⟨YE,?_,IS,(((((((((e0.trans H).trans G).trans F).trans E).trans D).trans C).trans B).trans A).trans z).trans g⟩;rw[Ae,ql,t77];simp only[abS,Nat.reduceLeDiff,↓reduceIte,q,p,o,m.Ad,(K5 176 _).Ad,l.Ad,(K5 177 _).Ad,k.Ad,(K5 178 _).Ad,j.Ad,(K5 179 _).Ad,i.Ad,(K5 180 _).Ad,n,(K5 181 _).Ad,a,(K5 182 _).Ad]
def vq:∀{L M:List (List Ak×Aa)},lk (L++M) s=(lk L s).or (lk M s)
 |[],M=>by simp[lk]
 |(ws,v)::L,M=>by
  simp only[CC,lk];split;.rfl
  .exact vq
def yT:∀{L:List (List Ak×Aa)},(∀g∈L,s∉g.1)->lk L s=none
 |[],_=>rfl
 |(ws,v)::L,h=>by simp only[lk];rw[Ag (h (ws,v) (.head _))];exact yT λg hg=>h g (.tail _ hg)
def qC:∀{L:List (List Ak×Aa)},L.Pairwise (λa b=>∀x∈a.1,x∉b.1)->lk L.reverse s=lk L s
 |[],_=>rfl
 |(ws,v)::L,h=>by
  cases h with
  |cons h1 h2=>
   rw[HD,vq,qC h2];simp only[lk];by_cases c:s∈ws;.rw[Af c,Af c,yT λg hg=>h1 g hg s c];rfl
   .rw[Ag c,Ag c];cases lk L s<;>rfl
def vr:lk D0.reverse s=lk D0 s:=qC D8
def aDw:lk OP.reverse s=lk OP s:=qC D8
end
section
variable{h h':Ah}{bi si:Nat}{b b':BS}{F F':Nat->Prop}{n o a:Nat}{t:DU}{av:Aa}
def Fl(bi:Nat)(t:DU)(av:Aa):Ej:= .cells (Pt bi 0::B2 t av)
def SW.new(w:PB h bi b F)(t:DU)(av:Aa):SW (h++[Fl bi t av]) bi b F h.length t av:=
 ⟨w.JL,by simp[Fl],λhf=>Dd _ (w.lt hf)⟩
def SW.fr(w:SW h bi b F si t av){id:Nat}(HX:h.length<=id)(f:Fr id h h'):SW h' bi b F si t av:=by have hl:=(Aj.1 w.sc).1;exact⟨w.pb.DT λi hi=>f.2 i (w.pb.lt hi) (by have:=w.pb.lt hi;omega),by rw[f.2 si hl Ac];exact w.sc,w.no⟩
def JZ{k h2:Ah}{id:Nat}{x:Ej}(HX:(h++[x]).length<=id)(f:Fr id (h++[x]) k)(e:Ew k (λi=>F i\/i=h.length) h2 (λi=>F' i\/i=h.length)):Ew h F h2 F':=by
 have l1:(h++[x]).length=h.length+1:=Ax;have c:=f.1;have l3:=e.len;refine⟨Ac,λi hi hn=>?_,λi hf=>?_⟩;.rw[e.old i Ac (λh=>by rcases h with h|h;exact hn h;omega),f.2 i Ac Ac,An hi]
 .rcases e.BM i (.inl hf) with(h1|h1)|h1
  .exact .inl h1
  .exact .inr Ac
  .exact .inr Ac
def qD(h0:Ah):∃h1,Ca cx 76 [] h0 (.map (some h0.length)) h1/\Fr h0.length h0 h1/\∀s,Oo h1 .nilFunc false (.map (some h0.length)) (.str s)=some ((lk D0 s).getD .nilFunc):=by obtain⟨h1,r,k,f⟩:=aME h0;exact⟨h1,r,f,λs=>by rw[k.get,vr]⟩
def aDx(h0:Ah):∃h1,Ca cx 77 [] h0 (.map (some h0.length)) h1/\Fr h0.length h0 h1/\∀s,Oo h1 .nilFunc false (.map (some h0.length)) (.str s)=some ((lk OP s).getD .nilFunc):=by obtain⟨h1,r,k,f⟩:=aMG h0;exact⟨h1,r,f,λs=>by rw[k.get,aDw]⟩
def YL{k:Int}(hk:t.k=k)(h:1<=k/\k<=6):t.ok:=by unfold DU.ok;omega
def Ol{k:Nat}{x y:List Aa}:Ay (.Ff true .fn) [.func (.func k) x y,.nilFunc]=some tt:=rfl
def X2:Ay (.Ff true .fn) [.nilFunc,.nilFunc]=some ff:=rfl
def Nu(w:PB h bi b F)(hk:t.k=2){k:Nat}(e:lk D0 t.name=some (qf k))(ü:k<=99999)(d:∀h1,SW h1 bi b F h.length t av->vn h1 F h.length k [Pt h.length 0] (.tuple []) bi b'):Fe h F 27 [Pt bi 0,.agg (B2 t av)] ff bi b':=by have w0:=SW.new w t av;obtain⟨h1,g,f1,g1⟩:=qD (h++[Fl bi t av]);have w1:=w0.fr (Ab _) f1;obtain⟨h2,j,r2,p2,i⟩:=d h1 w1;have f:=Ji w t av;rw[Al (YL hk AI)] at f;have c:=g1 t.name;rw[e] at c;refine⟨h2,j,?_,p2,JZ (Ab _) f1 i⟩;rw[Ae,Ku,tH];simp only[Fl,B2,hk,Ap,AJ,Br] at g f c;simp only[abS,Nat.reduceLeDiff,↓reduceIte,Bv,B2,Ol,f.Ad,hk,(AI:¬(2:Int)=5),(AI:¬(2:Int)=4),(AI:¬(2:Int)=6),g.Ad,c,FF,qf,Cz,Bq,(aHC ü r2).Ad]
def aHD(w:PB h bi b F)(hk:t.k=2){k:Nat}{r:Bool}(e:lk D0 t.name=some (.func (.func k) [] []))(ü:k<=99999)(d:∀h1,SW h1 bi b F h.length t av->Fe h1 F k [Pt h.length 0] (.bool r) bi b'):Fe h F 27 [Pt bi 0,.agg (B2 t av)] (.bool r) bi b':=by have w0:=SW.new w t av;obtain⟨h1,g,f1,g1⟩:=qD (h++[Fl bi t av]);have w1:=w0.fr (Ab _) f1;obtain⟨h2,j,r2,p2,i⟩:=(d h1 w1).JA (si:=h.length);have f:=Ji w t av;rw[Al (YL hk AI)] at f;have c:=g1 t.name;rw[e] at c;refine⟨h2,j,?_,p2,JZ (Ab _) f1 i⟩;rw[Ae,Ku,tH];simp only[Fl,B2,hk,Ap,AJ,Br] at g f c;simp only[abS,Nat.reduceLeDiff,↓reduceIte,Bv,B2,Ol,f.Ad,hk,(AI:¬(2:Int)=5),(AI:¬(2:Int)=4),(AI:¬(2:Int)=6),g.Ad,c,FF,Cz,Bq,ü,r2.Ad]
def aMH(w:PB h bi b F)(g:Gz b (n+4*a+4) o a)(ht:t.Sm)(hv:A8 t.Av av)(hk:t.k=2)(e:lk D0 t.name=none):Fe h F 27 [Pt bi 0,.agg (B2 t av)] ff bi (b.Bg.Df t):=by have w0:=SW.new w t av;obtain⟨h1,i,f1,g1⟩:=qD (h++[Fl bi t av]);have w1:=w0.fr (Ab _) f1;have j:Gz b (n+4+4*a) o a:=g.dn Ac;obtain⟨h2,s,r2,p2,m⟩:=CV w1.pb j;obtain⟨q,r,f,p,l⟩:=ET p2 j.Bg ht hv;have d:=Ji w t av;rw[Al (YL hk AI)] at d;have c:=g1 t.name;rw[e] at c;refine⟨q,r,?_,p,JZ (Ab _) f1 (m.trans l).kR⟩;rw[Ae,Ku,tH];simp only[Fl,B2,hk,Ap,AJ,Br] at i d c f;simp only[abS,Nat.reduceLeDiff,↓reduceIte,Bv,B2,X2,d.Ad,hk,(AI:¬(2:Int)=5),(AI:¬(2:Int)=4),(AI:¬(2:Int)=6),i.Ad,c,qN,r2.Ad,f.Ad]
def qE(w:PB h bi b F)(hk:t.k=3){k:Nat}(e:lk OP t.name=some (qf k))(ü:k<=99999)(d:∀h1,SW h1 bi b F h.length t av->vn h1 F h.length k [Pt h.length 0] (.tuple []) bi b'):Fe h F 27 [Pt bi 0,.agg (B2 t av)] ff bi b':=by have w0:=SW.new w t av;obtain⟨h1,g,f1,g1⟩:=aDx (h++[Fl bi t av]);have w1:=w0.fr (Ab _) f1;obtain⟨h2,j,r2,p2,i⟩:=d h1 w1;have f:=Ji w t av;rw[Al (YL hk AI)] at f;have c:=g1 t.name;rw[e] at c;refine⟨h2,j,?_,p2,JZ (Ab _) f1 i⟩;rw[Ae,Ku,tH];simp only[Fl,B2,hk,Ap,AJ,Br] at g f c;simp only[abS,Nat.reduceLeDiff,↓reduceIte,Bv,B2,Ol,f.Ad,hk,(AI:¬(3:Int)=5),(AI:¬(3:Int)=4),(AI:¬(3:Int)=6),(AI:¬(3:Int)=2),g.Ad,c,FF,qf,Cz,Bq,(aHC ü r2).Ad]
def aDy(w:PB h bi b F)(hk:t.k=3){k:Nat}{r:Bool}(e:lk OP t.name=some (.func (.func k) [] []))(ü:k<=99999)(d:∀h1,SW h1 bi b F h.length t av->Fe h1 F k [Pt h.length 0] (.bool r) bi b'):Fe h F 27 [Pt bi 0,.agg (B2 t av)] (.bool r) bi b':=by have w0:=SW.new w t av;obtain⟨h1,g,f1,g1⟩:=aDx (h++[Fl bi t av]);have w1:=w0.fr (Ab _) f1;obtain⟨h2,j,r2,p2,i⟩:=(d h1 w1).JA (si:=h.length);have f:=Ji w t av;rw[Al (YL hk AI)] at f;have c:=g1 t.name;rw[e] at c;refine⟨h2,j,?_,p2,JZ (Ab _) f1 i⟩;rw[Ae,Ku,tH];simp only[Fl,B2,hk,Ap,AJ,Br] at g f c;simp only[abS,Nat.reduceLeDiff,↓reduceIte,Bv,B2,Ol,f.Ad,hk,(AI:¬(3:Int)=5),(AI:¬(3:Int)=4),(AI:¬(3:Int)=6),(AI:¬(3:Int)=2),g.Ad,c,FF,Cz,Bq,ü,r2.Ad]
def aMI(w:PB h bi b F)(g:Gz b n o a)(hk:t.k=3)(e:lk OP t.name=none):Fe h F 27 [Pt bi 0,.agg (B2 t av)] ff bi (b.Dw t.name):=by have w0:=SW.new w t av;obtain⟨h1,f,f1,g1⟩:=aDx (h++[Fl bi t av]);have w1:=w0.fr (Ab _) f1;obtain⟨h2,j,r2,p2,i⟩:=ur w1.pb g t.name;have d:=Ji w t av;rw[Al (YL hk AI)] at d;have c:=g1 t.name;rw[e] at c;refine⟨h2,j,?_,p2,JZ (Ab _) f1 i.kR⟩;rw[Ae,Ku,tH];simp only[Fl,B2,hk,Ap,AJ,Br] at f d c;simp only[abS,Nat.reduceLeDiff,↓reduceIte,Bv,B2,X2,d.Ad,hk,(AI:¬(3:Int)=5),(AI:¬(3:Int)=4),(AI:¬(3:Int)=6),(AI:¬(3:Int)=2),f.Ad,c,qN,r2.Ad]
def ý:lk D0 aTu=some (qf 167):=by simp only[D0,lk];rfl
def Nv(w:PB h bi b F)(g:Gz b (n+1000) o a)(ht:t.Sm)(hv:A8 t.Av av)(hs:t.st [aTu]):Fe h F 27 [Pt bi 0,.agg (B2 t av)] ff bi (b.Jv t):=by
 have hn:t.name=aTu:=AU.1 hs.2;have e:b.Jv t=b.Of t:=by unfold BS.Jv BS.Of;rw[Af hn]
 rw[e];exact Nu w hs.1 (by rw[hn];exact ý) AI λh1 w1=>(aHw w1 g ht hv).JA
def qF(w:PB h bi b F)(g:Gz b (n+8*(4*(o+a+8)+10)+8*a+2000) o a)(ht:t.Sm)(hv:A8 t.Av av)(hk:t.k=2):Fe h F 27 [Pt bi 0,.agg (B2 t av)] (.bool (b.opens t).2) bi (b.opens t).1:=by
 have ge:∀{m},m<=n+8*(4*(o+a+8)+10)+8*a+2000->Gz b m o a:=λh=>g.dn h;unfold BS.opens;by_cases c:t.name∈HR;.rw[Af c];exact aHD w hk (by simp only[D0,lk,AU,↓reduceIte,c]) AI λh1 w1=>aHz w1 (n:=n) (ge Ac) ht hv λhx=>absurd (AU.1 hx.2▸c:aTu∈HR) D8
 rw[Ag c];by_cases d:t.name∈eB;.rw[Af d];exact Nu w hk (by simp only[D0,lk,↓reduceIte,c,d]) AI λh1 w1=>(vj w1 (n:=n) (ge Ac) ht hv).JA
 rw[Ag d];by_cases e:t.name∈Da;.rw[Af e];exact Nu w hk (by simp only[D0,lk,↓reduceIte,c,d,e]) AI λh1 w1=>(aMg w1 (n:=n) (ge Ac) ht hv).JA
 rw[Ag e];by_cases f:t.name∈ð;.rw[Af f];exact Nu w hk (by simp only[D0,lk,↓reduceIte,c,d,e,f]) AI λh1 w1=>(aMh w1 (n:=n) (ge Ac) ht hv).JA
 rw[Ag f];by_cases i:t.name∈ñ;.rw[Af i];exact Nu w hk (by simp only[D0,lk,↓reduceIte,c,d,e,f,i]) AI λh1 w1=>(aDo w1 (n:=n) (ge Ac) ht hv).JA
 rw[Ag i];by_cases j:t.name∈kJ;.rw[Af j];exact Nu w hk (by simp only[D0,lk,↓reduceIte,c,d,e,f,i,j]) AI λh1 w1=>(aMk w1 (n:=n) (ge Ac) ht hv).JA
 rw[Ag j];by_cases l:t.name∈eC;.rw[Af l];exact Nu w hk (by simp only[D0,lk,↓reduceIte,c,d,e,f,i,j,l]) AI λh1 w1=>aHv w1 (n:=n) (ge Ac) ht hv
 rw[Ag l];by_cases p:t.name∈yE;.rw[Af p];exact aHD w hk (by simp only[D0,lk,↓reduceIte,c,d,e,f,i,j,l,p]) AI λh1 w1=>⟨h1,F,aMA _,w1.pb,.refl⟩
 rw[Ag p];by_cases q:t.name∈ò;.rw[Af q];exact Nu w hk (by simp only[D0,lk,↓reduceIte,c,d,e,f,i,j,l,p,q]) AI λh1 w1=>(aMq w1 (n:=n) (ge Ac) ht hv).JA
 rw[Ag q];by_cases r:t.name∈yF;.rw[Af r];exact Nu w hk (by simp only[D0,lk,↓reduceIte,c,d,e,f,i,j,l,p,q,r]) AI λh1 w1=>(aMt w1 (n:=n) (ge Ac) ht hv).JA
 rw[Ag r];by_cases IS:t.name∈ó;.rw[Af IS];exact Nu w hk (by simp only[D0,lk,↓reduceIte,c,d,e,f,i,j,l,p,q,r,IS]) AI λh1 w1=>(aMu w1 (n:=n) (ge Ac) ht hv).JA
 rw[Ag IS];by_cases MC:t.name∈yG;.rw[Af MC];exact Nu w hk (by simp only[D0,lk,↓reduceIte,c,d,e,f,i,j,l,p,q,r,IS,MC]) AI λh1 w1=>(aMn w1 (n:=n) (ge Ac) ht hv).JA
 rw[Ag MC];by_cases Nq:t.name∈ô;.rw[Af Nq];exact Nu w hk (by simp only[D0,lk,↓reduceIte,c,d,e,f,i,j,l,p,q,r,IS,MC,Nq]) AI λh1 w1=>(aMs w1 (n:=n) (ge Ac) ht hv).JA
 rw[Ag Nq];by_cases Oe:t.name∈PG;.rw[Af Oe];exact Nu w hk (by simp only[D0,lk,↓reduceIte,c,d,e,f,i,j,l,p,q,r,IS,MC,Nq,Oe]) AI λh1 w1=>(aHw w1 (n:=n) (ge Ac) ht hv).JA
 rw[Ag Oe];by_cases QI:t.name=aTD;.rw[Af QI];exact Nu w hk (by simp only[D0,lk,AU,↓reduceIte,c,d,e,f,i,j,l,p,q,r,IS,MC,Nq,Oe,A6 QI]) AI λh1 w1=>(aMD w1 (n:=n) (ge Ac) ht hv).JA
 rw[Ag QI];by_cases TL:t.name=aUg;.rw[Af TL];exact Nu w hk (by simp only[D0,lk,AU,↓reduceIte,c,d,e,f,i,j,l,p,q,r,IS,MC,Nq,Oe,QI,A6 TL]) AI λh1 w1=>(aMi w1 (n:=n) (ge Ac) ht hv).JA
 rw[Ag TL];by_cases Vb:t.name=aTw;.rw[Af Vb];exact Nu w hk (by simp only[D0,lk,AU,↓reduceIte,c,d,e,f,i,j,l,p,q,r,IS,MC,Nq,Oe,QI,TL,A6 Vb]) AI λh1 w1=>(aMj w1 (n:=n) (ge Ac) ht hv).JA
 rw[Ag Vb];by_cases XN:t.name=[97];.rw[Af XN];exact Nu w hk (by simp only[D0,lk,AU,↓reduceIte,c,d,e,f,i,j,l,p,q,r,IS,MC,Nq,Oe,QI,TL,Vb,A6 XN]) AI λh1 w1=>(aMo w1 (n:=n) (ge Ac) ht hv).JA
 rw[Ag XN];by_cases Uz:t.name=aTT;.rw[Af Uz];exact Nu w hk (by simp only[D0,lk,AU,↓reduceIte,c,d,e,f,i,j,l,p,q,r,IS,MC,Nq,Oe,QI,TL,Vb,XN,A6 Uz]) AI λh1 w1=>(aMl w1 (n:=n) (ge Ac) ht hv).JA
 rw[Ag Uz];by_cases dX:t.name=aTL;.rw[Af dX];exact Nu w hk (by simp only[D0,lk,AU,↓reduceIte,c,d,e,f,i,j,l,p,q,r,IS,MC,Nq,Oe,QI,TL,Vb,XN,Uz,A6 dX]) AI λh1 w1=>(aMm w1 (n:=n) (ge Ac) ht hv).JA
 rw[Ag dX];by_cases kF:t.name=aT9;.rw[Af kF];exact Nu w hk (by simp only[D0,lk,AU,↓reduceIte,c,d,e,f,i,j,l,p,q,r,IS,MC,Nq,Oe,QI,TL,Vb,XN,Uz,dX,A6 kF]) AI λh1 w1=>(aMr w1 (n:=n) (ge Ac) ht hv).JA
 rw[Ag kF];exact aMH w (n:=n) (ge Ac) ht hv hk (by simp only[D0,lk,AU,↓reduceIte,c,d,e,f,i,j,l,p,q,r,IS,MC,Nq,Oe,QI,TL,Vb,XN,Uz,dX,kF])
def kW(w:PB h bi b F)(g:Gz b (n+8*(4*(o+a+8)+10)+8*a+2000) o a)(ht:t.Sm)(hv:A8 t.Av av)(hk:t.k=3):Fe h F 27 [Pt bi 0,.agg (B2 t av)] (.bool (b.PI t).2) bi (b.PI t).1:=by
 have ge:∀{m},m<=n+8*(4*(o+a+8)+10)+8*a+2000->Gz b m o a:=λh=>g.dn h;unfold BS.PI;by_cases s:t.name=Bb;.rw[Af s];exact aDy w hk (by rw[s];simp only[OP,lk];rfl) AI λh1 w1=>aHz w1 (n:=n) (ge Ac) ht hv λhx=>by have:=hx.1;omega
 rw[Ag s];by_cases r:t.name∈PG
 .rw[Af r];have p:t.name=aTu\/t.name=aTy:=by simpa[PG] using r
  rcases p with p|p
  .exact aDy w hk (by rw[p];simp only[OP,lk];rfl) AI λh1 w1=>aHy w1 (n:=n) (ge Ac)
  .exact aDy w hk (by rw[p];simp only[OP,lk];rfl) AI λh1 w1=>aHy w1 (n:=n) (ge Ac)
 rw[Ag r];have c:¬t.name=aTu/\¬t.name=aTy:=by simpa[PG] using r
 have ň:¬t.name=aTv:=s;by_cases d:t.name∈eD;.rw[Af d];exact qE w hk (by simp only[OP,lk,AU,↓reduceIte,ň,c.1,c.2,d]) AI λh1 w1=>(aHx w1 (n:=n) (ge Ac)).JA
 rw[Ag d];by_cases e:t.name∈õ;.rw[Af e];exact qE w hk (by simp only[OP,lk,AU,↓reduceIte,ň,c.1,c.2,d,e]) AI λh1 w1=>(aMz w1 (n:=n) (ge Ac)).JA
 rw[Ag e];by_cases f:t.name∈Da;.rw[Af f];exact qE w hk (by simp only[OP,lk,AU,↓reduceIte,ň,c.1,c.2,d,e,f]) AI λh1 w1=>(aMx w1 (n:=n) (ge Ac)).JA
 rw[Ag f];by_cases i:t.name∈kJ;.rw[Af i];exact qE w hk (by simp only[OP,lk,AU,↓reduceIte,ň,c.1,c.2,d,e,f,i]) AI λh1 w1=>(aMw w1 (n:=n) (ge Ac)).JA
 rw[Ag i];by_cases j:t.name∈yH;.rw[Af j];exact qE w hk (by simp only[OP,lk,AU,↓reduceIte,ň,c.1,c.2,d,e,f,i,j]) AI λh1 w1=>(aMB w1 (n:=n) (ge Ac)).JA
 rw[Ag j];by_cases l:t.name=aUg;.rw[Af l];exact qE w hk (by simp only[OP,lk,AU,↓reduceIte,ň,c.1,c.2,d,e,f,i,j,A6 l]) AI λh1 w1=>(aMy w1 (n:=n) (ge Ac)).JA
 rw[Ag l];by_cases q:t.name=[98,114];.rw[Af q];exact qE w hk (by simp only[OP,lk,AU,↓reduceIte,ň,c.1,c.2,d,e,f,i,j,l,A6 q]) AI λh1 w1=>(aMC w1 (n:=n) (ge Ac))
 rw[Ag q];exact aMI w (n:=n) (ge Ac) hk (by simp only[OP,lk,AU,↓reduceIte,ň,c.1,c.2,d,e,f,i,j,l,q])
def aDz(w:PB h bi b F)(g:Gz b n o a):Fe h F 80 [Pt bi 0] (.tuple []) bi b.aDc:=by
 have r:=g.rm.tm;obtain⟨l,j,c,tt,G,w,hc,rfl⟩:=w;have lt:=w.t.1.len;have l6:=w.l6;by_cases h0:b.tm=[]
 .have e:b.aDc=b:=by
   unfold BS.aDc;have:b.tm.dropLast=b.tm:=by rw[h0];rfl
   rw[this]
  refine⟨h,_,?_,⟨l,j,c,tt,G,by rw[e];exact w,by rw[e];exact hc,rfl⟩,.refl⟩;have i:Ay (.len false) [tt]=some (I 0):=by rw[lt,h0];rfl
  rw[Ae,oZ,t80];simp only[abS,l6,i,Us]
 .have hpos:=Ef.2 h0;obtain⟨u,s,f⟩:=Bz.Sb (w.t.1.ne h0) (k:= .i64) (n:=b.tm.length-1) Ac;rw[<-Vc] at f;obtain⟨p,q,d⟩:=ua (.inl f) Ed h;have m:=w.ub d;refine⟨_,_,?_,⟨l,j,c,p,G,m,hc,rfl⟩,BN⟩;rw[Ae,oZ,t80];simp only[abS,l6,lt,(Ac:(0:Int)<(b.tm.length:Int)),MN hpos (Ac:b.tm.length<9223372036854775807),s,q.Ad,w.st (k:=6) (v0:=tt) rfl d.1.cells,Us]
def ZW(w:PB h bi b F)(g:Gz b (n+4*a+5) o a)(ht:t.Sm)(hk:t.k=5):Fe h F 27 [Pt bi 0,.agg (B2 t av)] ff bi (b.QK t):=by have w0:=SW.new w t av;obtain⟨h2,e,r2,p2,d⟩:=(aMv w0 g ht).JA (si:=h.length);have c:=Ji w t av;rw[Al (YL hk AI)] at c;refine⟨h2,e,?_,p2,JZ (Ab _) .refl d⟩;rw[Ae,Ku,tH];simp only[Fl,B2,hk] at r2 c;simp only[abS,Nat.reduceLeDiff,↓reduceIte,Bv,B2,c.Ad,hk,r2.Ad]
def SJ(w:PB h bi b F)(g:Gz b (n+1) o a)(ht:t.Sm)(hk:t.k=4):Fe h F 27 [Pt bi 0,.agg (B2 t av)] ff bi (b.DM t.data 0):=by have w0:=SW.new w t av;obtain⟨h2,e,r2,p2,d⟩:=LG w0.pb g (Bp ht.data AI) 0;have c:=Ji w t av;rw[Al (YL hk AI)] at c;refine⟨h2,e,?_,p2,JZ (id:=h.length+1) Ax .refl d.kR⟩;rw[Ae,Ku,tH];simp only[Fl,B2,hk] at r2 c;simp only[abS,Nat.reduceLeDiff,↓reduceIte,Bv,B2,c.Ad,hk,r2.Ad,(AI:¬(4:Int)=5)]
def kX(w:PB h bi b F)(hk:t.k=1):Fe h F 27 [Pt bi 0,.agg (B2 t av)] ff bi b:=by have w0:=SW.new w t av;have c:=Ji w t av;rw[Al (YL hk AI)] at c;refine⟨_,F,?_,w0.pb,JZ (id:=h.length+1) (x:=Fl bi t av) Ax .refl (Ew.refl.kR)⟩;rw[Ae,Ku,tH];simp only[Fl,B2,hk] at c⊢;simp only[abS,Nat.reduceLeDiff,↓reduceIte,Bv,B2,c.Ad,hk,(AI:¬(1:Int)=5),(AI:¬(1:Int)=4),(AI:¬(1:Int)=6),(AI:¬(1:Int)=2),(AI:¬(1:Int)=3)]
def vt(w:PB h bi b F)(hk:¬t.ok):Fe h F 27 [Pt bi 0,.agg (B2 t av)] ff bi b:=by have c:=Ji w t av;rw[Ai hk] at c;refine⟨_,F,?_,w,.refl⟩;rw[Ae,Ku,tH];simp only[B2] at c;simp only[abS,Nat.reduceLeDiff,↓reduceIte,Bv,B2,c.Ad]
end
section
variable{h u:Ah}{bi k:Nat}{cs:List Aa}{v:Aa}
def ey(hk:k<cs.length):cs.take k++[v]++cs.drop (k+1)=cs.set k v:=by rw[Ck,Af hk];simp
def X3(hl:bi<h.length):(h.set bi (.cells cs)++u)[bi]?=some (.cells cs):=by rw[An (by simpa using hl),AA hl]
def eP(hl:bi<h.length){x y:Ej}:(h.set bi x++u).set bi y=h.set bi y++u:=by rw[aHW _ _ (by simpa using hl),Md]
def þ(hl:bi<h.length):Bi (h.set bi (.cells cs)++u) none (Pt bi k)=cs[k]?:=by simp only[Bi,X3 hl,FJ]
def X4(hl:bi<h.length)(hv:v.cells=[v])(hk:k<cs.length):CH (h.set bi (.cells cs)++u) 1 (Pt bi k) v=some (h.set bi (.cells (cs.set k v))++u):=by simp only[CH,X3 hl,hv,Bc];rw[Af ⟨trivial,Ac⟩,ey hk,eP hl]
def aMJ(hl:bi<h.length)(hk:4<cs.length)(m:Int):Ca cx 64 [Pt bi 0,I m] (h.set bi (.cells cs)++u) tt (h.set bi (.cells (cs.set 4 (I m)))++u):=by have e:=X4 (h:=h) (u:=u) (bi:=bi) (k:=4) (cs:=cs) (v:= I m) hl rfl hk;rw[Ae,oX,t64];simp only[Ci,e]
def SK(l:List Int):(l.map Cu).flatten=l.map (Aa.int .i64):=by
 induction l with
 |nil=>rfl
 |cons x l ih=>rw[A0,CB,ih];rfl
def aMK(l:List Int)(h:Ah)(hb:l.length<=1000000000):∃v u,Ca cx 200073 [.sl 1 (l.map Cu)] h v (h++u)/\((l=[]/\v= .EC 1/\u=[])\/(l≠[]/\v= .CW h.length 0 l.length 1/\u=[.cells (l.map (Aa.int .i64))])):=by
 have hm:AK=140737488355328:=rfl;cases l with
 |nil=>refine⟨.EC 1,[],?_,.inl ⟨rfl,rfl,rfl⟩⟩;rw[Bq,Ae,Rg,VA];have c:Kg h 1 8 (.EC 1) (.sl 1 [])=some (h,.EC 1):=rfl;simp only[Ci,Dc,show Ay (.Ff false .sl) [.sl 1 [],.slnil]=some (.bool false) from rfl,show Ay (.EC 1) []=some (.EC 1) from rfl,c]
 |cons x l=>
  refine⟨_,_,?_,.inr ⟨Ax,rfl,rfl⟩⟩;have c:Kg h 1 8 (.EC 1) (.sl 1 ((x::l).map Cu))=some (h++[.cells ((x::l).map (Aa.int .i64))],.CW h.length 0 (x::l).length 1):=by
   have PV:((x::l).map Cu).length*8<=AK:=by rw[As];omega
   rw[<-SK];simp only[A0] at PV⊢;simp only[Kg,NB,beq_self_eq_true,BD];rw[Af ⟨trivial,PV⟩];simp
  rw[Ae,Rg,VA];simp only[Ci,show Ay (.Ff false .sl) [.sl 1 ((x::l).map Cu),.slnil]=some (.bool false) from rfl,show Ay (.EC 1) []=some (.EC 1) from rfl,c]
end
section
variable{h h':Ah}{bi:Nat}{b b':BS}{F F':Nat->Prop}{n o a:Nat}
def vu(w:PB h bi b F)(g:Gz b n o a)(m:Int):Fe h F 78 [Pt bi 0,I m] tt bi (b.GU m).1:=by
 have N:=g.rm.tm;have w0:=w;obtain⟨V,M,c,d,G,w,hc,rfl⟩:=w;have hl:=w.lt;obtain⟨cs,hcs⟩:∃cs,cs=Oc V b M c d:=⟨_,rfl⟩;have hb:=w.hb;rw[<-hcs] at hb;have hcl:cs.length=20:=by rw[hcs];rfl
 have Q:cs[6]?=some d:=by rw[hcs];rfl
 have e0:h=h.set bi (.cells cs)++[]:=by rw[Bq,Sa hb]
 have lt:=w.t.1.len;have s:Bi h none (Pt bi 6)=some d:=w.l6;obtain⟨l',w_⟩:∃l',l'=b.tm.dropLast:=⟨_,rfl⟩;have O:l'.length=b.tm.length-1:=by rw[w_];simp
 obtain⟨v,u,hv,p,J⟩:∃v u,((l'=[]/\(v= .EC 1\/v= .slnil)/\u=[])\/(l'≠[]/\v= .CW h.length 0 l'.length 1/\u=[Ej.cells (l'.map (Aa.int .i64))]))/\v.cells=[v]/\
   Ca cx 100080 [Pt bi 0] h (.tuple []) (h.set bi (.cells (cs.set 6 v))++u):=by
  by_cases hne:b.tm=[]
  .have C:=w.t;rw[hne] at C;have x:Ay (.len false) [d]=some (I 0):=by rw[lt,hne];rfl
   refine⟨d,[],.inl ⟨by rw[w_,hne];rfl,?_,rfl⟩,C.1.cells,?_⟩
   .rcases C with⟨q|⟨q,_⟩,P⟩
    .rcases(show Bz 1 [] d from q) with q|⟨q,_⟩
     .exact absurd q P
     .exact .inr q
    .exact .inl q
   .have es:cs.set 6 d=cs:=by obtain⟨YE,bE⟩:=Aj.1 Q;rw[<-bE,Hg]
    rw[es,<-e0,Ae,Re,Vy];simp only[abS,s,x,Us]
  .have hpos:=Ef.2 hne;have A:d= .sl 1 (b.tm.map Cu):=by
    rcases(show Bz 1 (b.tm.map Cu) d from w.t.1.ne hne) with e|⟨_,e⟩
    .exact e
    .exact absurd (by simpa using e) hne
   have es:Ay (.PQ 1 false false true) [d,I ((b.tm.length-1:Nat):Int)]=some (.sl 1 (l'.map Cu)):=by
    have D:Eg ((b.tm.length-1:Nat):Int) (b.tm.map Cu).length=some (b.tm.length-1):=by unfold Eg;rw[As,Af Ac];rfl
    rw[A,w_,Vc];simp only[Ay,Io,Dx,D,Bt,X7,BD,J2,GO]
   obtain⟨v,u,K,hv⟩:=aMK l' h Ac;have p:v.cells=[v]:=by rcases hv with⟨_,rfl,_⟩|⟨_,rfl,_⟩<;>rfl
   have D:h++u=h.set bi (.cells cs)++u:=by rw[Sa hb]
   have ł:CH (h++u) 1 (Pt bi 6) v=some (h.set bi (.cells (cs.set 6 v))++u):=by rw[D];exact X4 hl p Ac
   refine⟨v,u,hv.imp (λh=>⟨h.1,.inl h.2.1,h.2.2⟩) id,p,?_⟩;rw[Ae,Re,Vy];simp only[abS,s,lt,(Ac:(0:Int)<(b.tm.length:Int)),MN hpos (Ac:b.tm.length<9223372036854775807),es,K.Ad,ł]
 have y:Bi (h.set bi (.cells (cs.set 6 v))++u) none (Pt bi 6)=some v:=by rw[þ hl,AA Ac]
 have em:Ay (.Cl 1) [I m]=some (.sl 1 [[I m]]):=rfl;have aSg:AK=140737488355328:=rfl;obtain⟨id,r,j,S,hfz⟩:∃(id:Nat) (r j:Ah),FT (h.set bi (.cells (cs.set 6 v))++u) 1 8 v (.sl 1 [[I m]])=some (h.set bi (.cells (cs.set 6 v))++r,.CW id 0 (l'.length+1) 1)/\∀ds:List Aa,KO (h.set bi (.cells ds)++r) (.CW id 0 (l'.length+1) 1)=some (h.set bi (.cells ds)++j,.sl 1 ((l'++[m]).map Cu)):=by
  rcases hv with⟨h0,lJ,rfl⟩|⟨h0,rfl,rfl⟩
  .refine⟨h.length,[.cells [I m]],[.Ds],?_,λds=>?_⟩
   .rw[h0,Bq];rcases lJ with rfl|rfl
    .simp[FT,Gb];omega
    .simp[FT,Gb];omega
   .rw[h0];have hg:(h.set bi (.cells ds)++[.cells [I m]])[h.length]?=some (.cells [I m]):=by rw[Bn Ax];simp
    simp only[KO,hg,Br,BC];rw[Af Ax];congr 2
    rw[BL _ _ Ax];simp
  .refine⟨h.length+1,[.Ds,.cells ((l'++[m]).map (Aa.int .i64))],[.Ds,.Ds],?_,λds=>?_⟩
   .have hg:(h.set bi (.cells (cs.set 6 (.CW h.length 0 l'.length 1)))++[.cells (l'.map (Aa.int .i64))])[h.length]?=some (.cells (l'.map Cu).flatten):=by rw[Bn Ax,SK];simp
    have:=NX (id:=h.length) (z:=1) (b:=8) (v:= .sl 1 [[I m]]) (Aw:=l'.map Cu) (r2:=[[I m]]) (LV (f:=Cu) (λa=>rfl) l') AI hg .mk Ax Ed;rw[As] at this;rw[this];congr 2
    .rw[BL _ _ Ax];have:([m].map (Aa.int .i64))=[[I m]].flatten:=rfl;simp[SK]
    .simp
   .have hg:(h.set bi (.cells ds)++[Ej.Ds,.cells ((l'++[m]).map (Aa.int .i64))])[h.length+1]?=some (.cells ((l'++[m]).map Cu).flatten):=by rw[Bn Ax,SK];simp
    have:=Nh (LV (f:=Cu) (z:=1) (λa=>rfl) (l'++[m])) hg;rw[As,Ap,Bc] at this;rw[this];congr 2
    rw[BL _ _ Ax];simp
 have uf:=X4 (h:=h) (u:=r) (bi:=bi) (k:=6) (cs:=cs.set 6 v) (v:= .CW id 0 (l'.length+1) 1) hl rfl Ed;rw[Md] at uf;have L:=aMJ (h:=h) (u:=r) (bi:=bi) (cs:=cs.set 6 (.CW id 0 (l'.length+1) 1)) hl Ed m;have fz:=hfz ((cs.set 6 (.CW id 0 (l'.length+1) 1)).set 4 (I m));have hfa:Kh (h.set bi (.cells ((cs.set 6 (.CW id 0 (l'.length+1) 1)).set 4 (I m)))++r) 6 (Pt bi 0)=some (h.set bi (.cells ((cs.set 4 (I m)).set 6 (.sl 1 ((l'++[m]).map Cu))))++j):=by
  have B:((cs.set 6 (.CW id 0 (l'.length+1) 1)).set 4 (I m))[0+6]?=some (.CW id 0 (l'.length+1) 1):=by rw[BC,Ao AI,AA Ac]
  unfold Kh;simp only[X3 hl,B,fz,Cj,eP hl];congr 3
  rw[BC,List.set_comm _ _ (AI:(4:Nat)≠6),Md,List.set_comm _ _ (AI:(6:Nat)≠4)]
 have w1:=w0.JL (u:=j);obtain⟨_,H,_⟩:=E9 w1 m;obtain⟨_,E,_⟩:=aDj H (l:=l'++[m]) (v:= .sl 1 ((l'++[m]).map Cu)) .gK;have R:Am.put (Am.put (h++j) bi 4 (I m)) bi 6 (.sl 1 ((l'++[m]).map Cu))=h.set bi (.cells ((cs.set 4 (I m)).set 6 (.sl 1 ((l'++[m]).map Cu))))++j:=by
  have U:h++j=h.set bi (.cells cs)++j:=by rw[Sa hb]
  rw[U,HO (X3 hl),eP hl,HO (X3 hl),eP hl]
 rw[R] at E;have T:(b.GU m).1={{b with mode:=m} with tm:=l'++[m]}:=by rw[w_];rfl
 rw[T];refine⟨_,_,?_,E,?_⟩;.rw[Ae,qm,t78];simp only[Ci,J.Ad,y,em,S,uf,L.Ad,hfa]
 .refine⟨Ax,λi hi hF=>?_,λi hi=> .inl hi⟩;have aML:i≠bi:=λe=>hF (.inl e);rw[An (by simpa using hi),Ao (Dr aML)]
end
section
variable{h h':Ah}{bi:Nat}{b b':BS}{F:Nat->Prop}{n o a:Nat}{t:DU}{av:Aa}
def ÿ(hs:t.st HR):¬t.st [aTu]:=λhx=>absurd (AU.1 hx.2▸hs.2:aTu∈HR) D8
def aDA(w:PB h bi b F)(g:Gz b (n+4*a+1005) o a)(ht:t.Sm)(hv:A8 t.Av av):Fe h F 29 [Pt bi 0,.agg (B2 t av)] (.bool (b.Fu t).2) bi (b.Fu t).1:=by
 have B9:=w.B9;unfold BS.Fu BS.TO;by_cases D:¬t.ok;.rw[Af D];have f:=Ji w t av;rw[Ai D] at f;refine⟨_,_,?_,w,.refl⟩;rw[Ae,Je,lN];simp only[abS,↓reduceIte,f.Ad]
 rw[Ag D];have f:=Ji w t av;rw[Al (Ei.1 D)] at f;by_cases i:t.k=5;.rw[Af i];obtain⟨h1,r,d,w1,c⟩:=ZW (n:=n) (av:=av) w (g.dn Ac) ht i;refine⟨_,_,?_,w1,c⟩;rw[Ae,Je,lN];simp only[abS,↓reduceIte,f.Ad,A6 i,d.Ad]
 rw[Ag i];by_cases j:t.k=4;.rw[Af j];obtain⟨h1,r,d,w1,c⟩:=SJ (n:=n) (av:=av) w (g.dn Ac) ht j;refine⟨_,_,?_,w1,c⟩;rw[Ae,Je,lN];simp only[abS,↓reduceIte,f.Ad,i,A6 j,d.Ad]
 rw[Ag j];by_cases l:t.k=1;.rw[Af l];obtain⟨h1,r,d,w1,c⟩:=kX (av:=av) w l;refine⟨_,_,?_,w1,c⟩;rw[Ae,Je,lN];simp only[abS,↓reduceIte,f.Ad,i,j,A6 l,d.Ad]
 rw[Ag l];by_cases y:t.st HR;.rw[Af y];have m:=EU Qh t av h;rw[Al y] at m;obtain⟨h1,r,d,w1,c⟩:=eM (n:=n) w (g.dn Ac) ht hv (λe=>absurd e (ÿ y));refine⟨_,_,?_,w1,c⟩;rw[Ae,Je,lN];simp only[abS,↓reduceIte,f.Ad,m.Ad,i,j,l,d.Ad]
 rw[Ag y];have m:=EU Qh t av h;rw[Ai y] at m;by_cases x:t.en [Bb];.rw[Af x];have p:=XY FE t av h;rw[Al x] at p;obtain⟨h1,r,d,w1,c⟩:=eM (n:=n) w (g.dn Ac) ht hv (λe=>by have h1:=e.1;have h2:=x.1;omega);refine⟨_,_,?_,w1,c⟩;rw[Ae,Je,lN];simp only[abS,↓reduceIte,f.Ad,m.Ad,p.Ad,i,j,l,d.Ad]
 rw[Ag x];have p:=XY FE t av h;rw[Ai x] at p;by_cases C:t.st sT1;.rw[Af C];have q:=EU ve t av h;rw[Al C] at q;obtain⟨h1,r,d,w1,c⟩:=vu w g 9;refine⟨_,_,?_,w1,c⟩;rw[Ae,Je,lN];simp only[abS,↓reduceIte,f.Ad,m.Ad,p.Ad,q.Ad,i,j,l,d.Ad,BS.GU,BS.again]
 rw[Ag C];have q:=EU ve t av h;rw[Ai C] at q;by_cases B:t.st [aU6];.rw[Af B];have s:=EU yP t av h;rw[Al B] at s;obtain⟨h1,r,d,w1,c⟩:=vu w g 12;refine⟨_,_,?_,w1,c⟩;rw[Ae,Je,lN];simp only[abS,↓reduceIte,f.Ad,m.Ad,p.Ad,q.Ad,s.Ad,i,j,l,d.Ad,BS.GU,BS.again]
 rw[Ag B];have s:=EU yP t av h;rw[Ai B] at s;by_cases A:t.st [[116,114]];.rw[Af A];have u:=EU vg t av h;rw[Al A] at u;obtain⟨h1,r,d,w1,c⟩:=vu w g 13;refine⟨_,_,?_,w1,c⟩;rw[Ae,Je,lN];simp only[abS,↓reduceIte,f.Ad,m.Ad,p.Ad,q.Ad,s.Ad,u.Ad,i,j,l,d.Ad,BS.GU,BS.again]
 rw[Ag A];have u:=EU vg t av h;rw[Ai A] at u;by_cases z:t.st sTd;.rw[Af z];have v:=EU vf t av h;rw[Al z] at v;obtain⟨h1,r,d,w1,c⟩:=vu w g 14;refine⟨_,_,?_,w1,c⟩;rw[Ae,Je,lN];simp only[abS,↓reduceIte,f.Ad,m.Ad,p.Ad,q.Ad,s.Ad,u.Ad,v.Ad,i,j,l,d.Ad,BS.GU,BS.again]
 rw[Ag z];have v:=EU vf t av h;rw[Ai z] at v;by_cases IS:t.k=2;.rw[Af IS];obtain⟨h1,r,d,w1,c⟩:=vu w g 7;refine⟨_,_,?_,w1,c⟩;rw[Ae,Je,lN];simp only[abS,↓reduceIte,f.Ad,m.Ad,p.Ad,q.Ad,s.Ad,u.Ad,v.Ad,i,j,l,A6 IS,d.Ad,BS.GU,BS.again]
 rw[Ag IS];by_cases MC:t.k=3;.rw[Af MC];refine⟨_,_,?_,w,.refl⟩;rw[Ae,Je,lN];simp only[abS,↓reduceIte,f.Ad,m.Ad,p.Ad,q.Ad,s.Ad,u.Ad,v.Ad,i,j,l,IS,A6 MC]
 rw[Ag MC];by_cases Nq:b.Xa;.rw[Af Nq];have kP:=Rn w g;rw[Al Nq] at kP;obtain⟨_,h1,r,d,w1,c⟩:=eI w g (CO (ws:=[Bb])) AI;have g1:Gz {b with AL:=DV Db (Bf [Bb]) b.AL} (n+4*a+1005) o a:=g.II Ct;obtain⟨_,h2,R,r2,K,H⟩:=yJ w1 g1;have g2:Gz {b with AL:=DV Db (Bf [Bb]) b.AL,AY:=FD b.AY} (n+4*a+1005) o a:=g.sub (lt:=b.tm) Ct (Ch _ _) (Ab _);have g3:Gz {b with AL:=DV Db (Bf [Bb]) b.AL,AY:=FD b.AY,tm:=b.tm.dropLast} (n+4*a+1005) o a:=g.sub Ct (Ch _ _) Ax;obtain⟨O,Q,M,J,G⟩:=aDz K g2;obtain⟨N,P,L,I,E⟩:=ø J g3;refine⟨_,_,?_,I,((c.trans H).trans G).trans E⟩;rw[Ae,Je,lN];simp only[abS,↓reduceIte,f.Ad,m.Ad,p.Ad,q.Ad,s.Ad,u.Ad,v.Ad,kP.Ad,i,j,l,IS,MC,xZ,d.Ad,r2.Ad,M.Ad,L.Ad]
 rw[Ag Nq];have kP:=Rn w g;rw[Ai Nq] at kP;obtain⟨h1,r,d,w1,c⟩:=uv w;refine⟨_,_,?_,w1,c⟩;rw[Ae,Je,lN];simp only[abS,↓reduceIte,f.Ad,m.Ad,p.Ad,q.Ad,s.Ad,u.Ad,v.Ad,kP.Ad,i,j,l,IS,MC,d.Ad]
def aHE(w:PB h bi b F)(g:Gz b (n+8*(4*(o+a+8)+10)+8*a+2000) o a)(ht:t.Sm)(hv:A8 t.Av av):Fe h F 27 [Pt bi 0,.agg (B2 t av)] (.bool (b.MU t).2) bi (b.MU t).1:=by
 have ge:∀{m},m<=n+8*(4*(o+a+8)+10)+8*a+2000->Gz b m o a:=λh=>g.dn h;unfold BS.MU;by_cases j:¬t.ok;.rw[Af j];exact vt w j
 rw[Ag j];by_cases r:t.k=5;.rw[Af r];exact ZW (n:=n) w (ge Ac) ht r
 rw[Ag r];by_cases q:t.k=4;.rw[Af q];exact SJ (n:=n) w (ge Ac) ht q
 rw[Ag q];by_cases d:t.k=6
 .rw[Af d];obtain⟨x,l6,s⟩:=w.ltm;have lt:=s.1.len;have w0:=SW.new w t av;have ok:=Ji w t av;rw[Al (YL d AI)] at ok;obtain⟨v,c,aMM⟩:=w0.pb.ltm;have i:=aMM.1.len;by_cases e:0<b.tm.length;.rw[Af e];obtain⟨h1,u,f,w1,l⟩:=aDA (n:=n) (av:=av) w0.pb (ge Ac) ht hv;refine⟨h1,u,?_,w1,JZ (id:=h.length+1) Ax .refl l.kR⟩;rw[Ae,Ku,tH];simp only[Fl,B2,d] at f ok c;simp only[abS,Nat.reduceLeDiff,↓reduceIte,Bv,B2,ok.Ad,d,(AI:¬(6:Int)=5),(AI:¬(6:Int)=4),c,i,(Ac:(0:Int)<(b.tm.length:Int)),f.Ad]
  .rw[Ag e];obtain⟨h1,u,f,w1,l⟩:=uv w0.pb;refine⟨h1,u,?_,w1,JZ (id:=h.length+1) Ax .refl l.kR⟩;rw[Ae,Ku,tH];simp only[Fl,B2,d] at f ok c;simp only[abS,Nat.reduceLeDiff,↓reduceIte,Bv,B2,ok.Ad,d,(AI:¬(6:Int)=5),(AI:¬(6:Int)=4),c,i,(Ac:¬(0:Int)<(b.tm.length:Int)),f.Ad]
 rw[Ag d];by_cases e:t.k=2;.rw[Af e];exact qF (n:=n) w g ht hv e
 rw[Ag e];by_cases p:t.k=3;.rw[Af p];exact kW (n:=n) w g ht hv p
 .rw[Ag p];exact kX w (by have:=Ei.1 j;unfold DU.ok at this;omega)
end
section
variable{h h':Ah}{ar n x:Int}{ps:List PN}{A:Ar}
def aHF{a n:Nat}{m:Option Nat}(w:PA h a n m ps A)(d:Mi A)(hd:A.has x/\(A.nd x).kind=1)(q:Bool):
  ∃h' Mj,Ca cx 63 [Pt a 0,I x,.bool q] h (I 0) h'/\PA h' a n m Mj (A.set x {A.nd x with CS:=q})/\Ew h (λi=>i∈FA a n m ps) h' (λi=>i∈FA a n m Mj):=by
 have hp:=(w.pn hd.1).2.1;obtain⟨h2,e,c,j,f,g⟩:=w.wr hd.1 (k:=10) AI (v:= .bool q) rfl (p:=⟨{A.nd x with CS:=q},(pN ps x).kv,(pN ps x).av,by rw[<-hp];exact(pN ps x).ok⟩) (by simp only[PN.row];rw[hp];rfl) rfl rfl;refine⟨h2,_,?_,c,w.xS c j f g⟩;rw[Ae,qa,t63];simp only[abS,(jQ (x:=x) w d).Ad,Af hd.1,Af hd.2,CA,Cq,(Ih w d hd.1).Ad,e]
def eQ(nm JN sys:Ak)(d:Int):PN:=⟨{kind:=3,Cy:=d,name:=nm,JN:=JN,sys:=sys},.slnil,.slnil,rfl⟩
def aHG{a n:Nat}{m:Option Nat}{nm JN sys:Ak}(w:PA h a n m ps A)(e:Mi A)(hb:A.len+1<=1000000000)(hd:A.has x/\(A.nd x).kind=1):
  ∃h',Ca cx 65 [Pt a 0,I x,.str nm,.str JN,.str sys] h (.tuple [I (A.len+1),I 0]) h'/\PA h' a h.length m (ps++[eQ nm JN sys x]) (A.add (eQ nm JN sys x).x)/\(∀i,i<h.length->i≠a->i≠n->h'[i]?=h[i]?)/\h'.length=h.length+1:=by
 have rJ:=w.len;obtain⟨h1,c,w1,d,l1⟩:=sr w Ac (eQ nm JN sys x) rfl rfl;have r2:Ca cx 142 [Pt a 0,I x,.agg (eQ nm JN sys 0).row] h (.tuple [I (A.len+1),I 0]) h1:=by rw[PN.row] at c;rw[Ae,cL,W_,PN.row];simp only[abS,(jQ (x:=x) w e).Ad,Af hd.1,Af hd.2,CA,Cq,eQ] at c⊢;simp only[Ci,c.Ad]
 refine⟨h1,?_,w1,d,l1⟩;simp only[PN.row,eQ] at r2;rw[Ae,qb,t65];simp only[abS,Nat.reduceLeDiff,↓reduceIte,Bv,r2.Ad]
end
section
variable{h h':Ah}{bi:Nat}{b b':BS}{F:Nat->Prop}{n o a:Nat}{t:DU}{av:Aa}
def vw(w:PB h bi b F)(g:Gz b n o a):∃ar,Bi h none (Pt bi 0)=some (Pt ar 0)/\Fe h F 63 [Pt ar 0,I b.Cy,tt] (I 0) bi b.eE:=by
 obtain⟨ar,i,c,d,G,w,hc,rfl⟩:=w;obtain⟨h',j,r,w',x'⟩:=w.step (A':=b.eE.a) (R:=λh'=>Ca cx 63 [Pt ar 0,I b.Cy,tt] h (I 0) h') λn m ps f=>by obtain⟨h1,YF,r,w1,e⟩:=aHF f g.rm.UY g.ok.Cy true;exact⟨h1,n,m,YF,r,w1,e⟩
 exact⟨ar,w.l0,h',_,r,⟨ar,i,c,d,j,w',hc,rfl⟩,x'⟩
def aMN(w:PB h bi b F)(g:Gz b (n+1) o a)(nm JN sys:Ak):∃ar,Bi h none (Pt bi 0)=some (Pt ar 0)/\Fe h F 65 [Pt ar 0,I b.Cy,.str nm,.str JN,.str sys] (.tuple [I (b.a.len+1),I 0]) bi {b with a:=b.a.add (eQ nm JN sys b.Cy).x}:=by
 obtain⟨ar,f,c,d,G,w,hc,rfl⟩:=w;obtain⟨h',j,r,w',x'⟩:=w.step (A':=b.a.add (eQ nm JN sys b.Cy).x) (R:=λh'=>Ca cx 65 [Pt ar 0,I b.Cy,.str nm,.str JN,.str sys] h (.tuple [I (b.a.len+1),I 0]) h') λn m ps e=>by obtain⟨h1,r,w1,i,l1⟩:=aHG (nm:=nm) (JN:=JN) (sys:=sys) e g.rm.UY (by have:=g.rm.n;unfold Ar.len;omega) g.ok.Cy;exact⟨h1,_,_,_,r,w1,e.Qd rfl i l1⟩
 exact⟨ar,w.l0,h',_,r,⟨ar,f,c,d,j,w',hc,rfl⟩,x'⟩
def aDB(w:PB h bi b F)(g:Gz b n o a){e:Int}(ok:EY b.a e)(p x k:Int):∃f d,Bi h none (Pt bi 0)=some (Pt f 0)/\Fe h F 66 [Pt f 0,I p,I x,I k] (I d) bi {b with a:=b.a.If p x k}:=by
 obtain⟨f,q,c,i,G,w,hc,rfl⟩:=w;obtain⟨h',s,⟨d,r⟩,w',x'⟩:=w.step (A':=b.a.If p x k) (R:=λh'=>∃d,Ca cx 66 [Pt f 0,I p,I x,I k] h (I d) h') λn m ps l=>by obtain⟨d,h1,YF,r,w1,j⟩:=ľ (p:=p) (x:=x) (b:=k) l g.rm.UY ok;exact⟨h1,n,m,YF,⟨d,r⟩,w1,j⟩
 exact⟨f,d,w.l0,h',_,r,⟨f,q,c,i,s,w',hc,rfl⟩,x'⟩
def aHH{u:DU->Bool}(w:PB h bi b F)(g:Gz b (n+5) o a)(ht:t.Sm)(hv:A8 t.Av av)(hq:∀h,Ca cx 67 [.agg (B2 t av)] h (.bool (u t)) h):Fe h F 21 [Pt bi 0,.agg (B2 t av)] (.bool (b.KN u t).2) bi (b.KN u t).1:=by
 have B9:=w.B9;unfold BS.KN;by_cases B:¬t.ok;.rw[Af B];have c:=Ji w t av;rw[Ai B] at c;refine⟨_,_,?_,w,.refl⟩;rw[Ae,Rd,Ĭ];simp only[abS,↓reduceIte,c.Ad]
 rw[Ag B];have c:=Ji w t av;rw[Al (Ei.1 B)] at c;by_cases A:t.HA;.rw[Af A];have d:=Rm t av h;rw[Al A] at d;refine⟨_,_,?_,w,.refl⟩;rw[Ae,Rd,Ĭ];simp only[abS,↓reduceIte,c.Ad,d.Ad]
 rw[Ag A];have d:=Rm t av h;rw[Ai A] at d;by_cases z:t.k=4;.rw[Af z];obtain⟨h1,M,j,w1,i⟩:=LG (s:=t.data) w (g.dn (n':=n+1) Ac) (by have:=ht.data;omega) b.Cy;refine⟨_,_,?_,w1,i⟩;rw[Ae,Rd,Ĭ];simp only[abS,↓reduceIte,c.Ad,d.Ad,A6 z,B9,j.Ad]
 rw[Ag z];by_cases f:t.k=1;rotate_left;.rw[Af f];obtain⟨T,v,h1,M,j,w1,i⟩:=vw w g;obtain⟨h2,L,r2,r,q⟩:=pY w1 2;refine⟨_,_,?_,r,i.trans q⟩;rw[Ae,Rd,Ĭ];simp only[abS,↓reduceIte,c.Ad,d.Ad,z,CA,eq_false f,A3,v,B9,j.Ad,r2.Ad,BS.again]
 rw[Ag (by simp[f])];have hd:=g.ok.Cy;have hx:sQ {kind:=3,Cy:=b.Cy,name:=t.name,JN:=t.JN,sys:=t.sys}:=by constructor<;>simp[C7,Gu,fE]
 have ZI:=Q9 g.ok.ok hx (.inr ⟨Ax,hd⟩) rfl rfl rfl rfl (λh=>absurd h.1 (AI:¬(3:Int)=4));obtain⟨T,v,h1,M,j,w1,i⟩:=aMN w (g.dn (n':=n+1) Ac) t.name t.JN t.sys;have g1:Gz {b with a:=b.a.add (eQ t.name t.JN t.sys b.Cy).x} n o a:=⟨g.ok.IH ZI Xi,(g.dn (n':=n+1) Ac).rm.FQ (KW (y:={kind:=3,Cy:=b.Cy,name:=t.name,JN:=t.JN,sys:=t.sys}) Ax Ax),g.AL,g.AY⟩;obtain⟨S,U,p,h2,L,r2,r,q⟩:=aDB w1 g1 (e:=0) ZI b.Cy (b.a.len+1) 0;have l1:=w1.B9;have Q:=r.B9;have g2:Gz (b.UD t) n o a:=(g.dn (n':=n+1) Ac).UD;have m:PB h2 bi (b.UD t) L:=r;have l:=hq h2;dsimp only;cases K:u t with
 |true=>rw[K] at l;rw[Af rfl];obtain⟨J,H,R,V,P,O,N⟩:=vw m g2;have G:Ca cx 63 [Pt J 0,I b.Cy,tt] h2 (I 0) R:=P;obtain⟨E,D,C⟩:=E9 O 2;refine⟨_,_,?_,D,((i.trans q).trans N).trans C⟩;rw[Ae,Rd,Ĭ];simp only[B2,f] at c d l;simp only[abS,↓reduceIte,c.Ad,d.Ad,(AI:¬(1:Int)=4),f,B2,CA,AW,v,B9,j.Ad,p,l1,r2.Ad,l.Ad,H,Q,G.Ad,E]
 |false=>rw[K] at l;rw[Ag Ax];obtain⟨E,D,C⟩:=E9 m 2;refine⟨_,_,?_,D,(i.trans q).trans C⟩;rw[Ae,Rd,Ĭ];simp only[B2,f] at c d l;simp only[abS,↓reduceIte,c.Ad,d.Ad,(AI:¬(1:Int)=4),f,B2,CA,AW,v,B9,j.Ad,p,l1,r2.Ad,l.Ad,E]
def J0{es:List (Aa×Aa)}{k:Int}{v:Aa}(e:H7 k es 0=some none):DC .S2 (h++[.map es]) [.map (some h.length),I k,v]=some (h++[.map (es++[(I k,v)])],tt):=by simp[DC,qT,e]
def Yb(k:Nat):Aa:= .func (.func k) [] []
def J1:List (Aa×Aa):=[(I 1,Yb 21),(I 2,Yb 22),(I 3,Yb 23),(I 4,Yb 24),(I 5,Yb 25),(I 6,Yb 26),(I 7,Yb 27),(I 8,Yb 28),(I 18,Yb 29)]
def aHI(h:Ah):Ca cx 61 [] h (.map (some h.length)) (h++[.map J1]):=by have m:=J0 (h:=h) (es:=J1.take 0) (k:=1) (v:=Yb 21) rfl;have l:=J0 (h:=h) (es:=J1.take 1) (k:=2) (v:=Yb 22) rfl;have j:=J0 (h:=h) (es:=J1.take 2) (k:=3) (v:=Yb 23) rfl;have i:=J0 (h:=h) (es:=J1.take 3) (k:=4) (v:=Yb 24) rfl;have g:=J0 (h:=h) (es:=J1.take 4) (k:=5) (v:=Yb 25) rfl;have f:=J0 (h:=h) (es:=J1.take 5) (k:=6) (v:=Yb 26) rfl;have e:=J0 (h:=h) (es:=J1.take 6) (k:=7) (v:=Yb 27) rfl;have d:=J0 (h:=h) (es:=J1.take 7) (k:=8) (v:=Yb 28) rfl;have c:=J0 (h:=h) (es:=J1.take 8) (k:=18) (v:=Yb 29) rfl;simp only[J1,Yb,Ma,OI,BO,CC] at m l j i g f e d c;rw[Ae,pz,t61];simp only[Ci,m,l,j,i,g,f,e,d,c,J1,Yb]
def kY{es:List (Aa×Aa)}{k:Int}{r:Option (Nat×Aa)}(e:H7 k es 0=some r):DC (.zA .nilFunc true) (h++[.map es]) [.map (some h.length),I k]=some (h++[.map es],S5 .nilFunc true r):=by simp[DC,fK,e]
def Om(w:PB h bi b F)(hk:t.ok){i k:Nat}{r:Bool}(e:H7 b.mode J1 0=some (some (i,Yb k)))(ü:k<=99999)(d:Fe (h++[.map J1]) F k [Pt bi 0,.agg (B2 t av)] (.bool r) bi b'):Fe h F 20 [Pt bi 0,.agg (B2 t av)] (.bool r) bi b':=by obtain⟨h2,m,r2,j,g⟩:=d;have B9:=w.B9;have c:=(w.JL (u:=[.map J1])).B9;have f:=Ji w t av;rw[Al hk] at f;have l:=kY (h:=h) e;refine⟨h2,m,?_,j,Ew.trans ⟨Ax,λi hi _=>An hi,λ_ hf=> .inl hf⟩ g⟩;rw[Ae,bY,t20];simp only[abS,↓reduceIte,f.Ad,B9,(aHI h).Ad,c,C8,l,S5,Yb,Cz,Bq,ü,r2.Ad]
def aDC(w:PB h bi b F)(hk:t.ok)(e:H7 b.mode J1 0=some none):Fe h F 20 [Pt bi 0,.agg (B2 t av)] ff bi b:=by have B9:=w.B9;have w1:=w.JL (u:=[.map J1]);have c:=w1.B9;have d:=Ji w t av;rw[Al hk] at d;have f:=kY (h:=h) e;refine⟨_,F,?_,w1,⟨Ax,λi hi _=>An hi,λ_ hf=> .inl hf⟩⟩;rw[Ae,bY,t20];simp only[abS,↓reduceIte,d.Ad,B9,(aHI h).Ad,c,C8,f,S5]
def aHJ{s:DU->Bool}(w:PB h bi b F)(g:Gz b (n+8*(4*(o+a+8)+10)+8*a+2000) o a)(ht:t.Sm)(hv:A8 t.Av av)(hq:∀h,Ca cx 67 [.agg (B2 t av)] h (.bool (s t)) h):Fe h F 20 [Pt bi 0,.agg (B2 t av)] (.bool (b.apply s t).2) bi (b.apply s t).1:=by
 have ge:∀{m},m<=n+8*(4*(o+a+8)+10)+8*a+2000->Gz b m o a:=λh=>g.dn h;have w1:=w.JL (u:=[.map J1]);unfold BS.apply;by_cases r:¬t.ok;.rw[Af r];have v:=Ji w t av;rw[Ai r] at v;refine⟨_,_,?_,w,.refl⟩;rw[Ae,bY,t20];simp only[abS,↓reduceIte,v.Ad]
 rw[Ag r];have hk:=Ei.1 r;by_cases q:b.mode=1;.rw[Af q];exact Om w hk (i:=0) (k:=21) (by rw[q];rfl) AI (aHH (n:=n) w1 (ge Ac) ht hv hq)
 rw[Ag q];by_cases p:b.mode=2;.rw[Af p];exact Om w hk (i:=1) (k:=22) (by rw[p];rfl) AI (aHm (n:=n) w1 (ge Ac) ht hv)
 rw[Ag p];by_cases l:b.mode=3;.rw[Af l];exact Om w hk (i:=2) (k:=23) (by rw[l];rfl) AI (aHn (n:=n) w1 (ge Ac) ht hv (λhs=>Nv (n:=n) w1 (ge Ac) ht hv hs))
 rw[Ag l];by_cases j:b.mode=4;.rw[Af j];exact Om w hk (i:=3) (k:=24) (by rw[j];rfl) AI (eM (n:=n) w1 (ge Ac) ht hv (λhs=>Nv (n:=n) w1 (ge Ac) ht hv hs))
 rw[Ag j];by_cases f:b.mode=5;.rw[Af f];exact Om w hk (i:=4) (k:=25) (by rw[f];rfl) AI (aHp (n:=n) w1 (ge Ac) ht hv (λhs=>Nv (n:=n) w1 (ge Ac) ht hv hs))
 rw[Ag f];by_cases e:b.mode=6;.rw[Af e];exact Om w hk (i:=5) (k:=26) (by rw[e];rfl) AI (aHr (n:=n) w1 (ge Ac) ht hv (λhs=>Nv (n:=n) w1 (ge Ac) ht hv hs))
 rw[Ag e];by_cases d:b.mode=7;.rw[Af d];exact Om w hk (i:=6) (k:=27) (by rw[d];rfl) AI (aHE (n:=n) w1 g ht hv)
 rw[Ag d];by_cases c:b.mode=8;.rw[Af c];exact Om w hk (i:=7) (k:=28) (by rw[c];rfl) AI (aHs (n:=n) w1 (ge Ac) ht hv)
 rw[Ag c];by_cases Uz:b.mode=18;.rw[Af Uz];exact Om w hk (i:=8) (k:=29) (by rw[Uz];rfl) AI (aDA (n:=n) w1 (ge Ac) ht hv)
 rw[Ag Uz];exact aDC w hk (by simp only[J1,H7,q,p,l,j,f,e,d,c,Uz,DO])
end
section
variable{av:Aa}
def qE1:Ak:=aT1
def qE2:Ak:=aT2
def qE3:Ak:=[72,84,77,76]
def qA:Ak:=aT4
def qB:Ak:=aTW
def Hc:List Ak:=[qE1,qE2,qE3]
def qG:List Ak:=[aUa,aT3,aUe,aTX,aTY,aUf,aTQ,aUd,aTP,aTI,aTC,aTF,aUb,aT0]
def ZX:List Ak:=[qA,qB]
def ez{k:IntKind}{s:Ak}{b z:Nat}(hb:b<=s.length):Ay (.PQ z true false true) [.str s,.int k (b:Int)]=some (.str (s.take b)):=by
 have a:Eg (b:Int) s.length=some b:=by unfold Eg;rw[Af Ac];rfl
 simp[Ay,Io,Dx,a]
def IA(p w:Ak):Bool:=decide (w.length<=p.length/\EH (p.take w.length)=EH w)
def VD(p w:Ak):Bool:=decide (EH p=EH w)
def aMO{v:Aa}{l:List Ak}(hv:HN l v)(hn:l.length<9223372036854775807)(h:Ah){f:FuncId}{caps:List Aa}{p:Ak->Bool}(hk:f<=99999)(hp:∀a∈l,Ca cx f (.str a::caps) h (.bool (p a)) h):
  Ca cx 234 [v,.func (.func f) [] caps] h (I (Cf p 0 l)) h:=by
 rw[Ae,wL,aCb];have hlen:(l.map Cc).length=l.length:=As ..;simp only[Ci,Bz.len hv];refine B1 (λn:Nat=>[I 0,I (n:Int)]) (λn h1=>n<=l.length/\Cf p 0 l=Cf p n (l.drop n)/\h1=h) (λn=>l.length-n) 0 rfl ⟨Bd _,rfl,rfl⟩ ?_;rintro n h1 ⟨Ø,ha,rfl⟩;rcases Bk n l.length with hlt|Hh
 .have i1:(n:Int)<((l.map Cc).length:Int):=by rw[hlen];omega
  have b:(l.map Cc)[n]'(by rw[hlen];exact hlt)=Cc l[n]:=Ax;rw[Az hlt,Cf] at ha;simp only[Ci,bK,↓reduceIte,Cz,hk,i1,Bz.FH hv (show n<(l.map Cc).length by rw[hlen];exact hlt),b,Cc,(hp _ (A5 hlt)).Ad];rw[C9];refine⟨λhe=>?_,λhe=>?_⟩;.rw[ha,Af he]
  .rw[Ag (by simp[he])] at ha;simp only[Ci,CR (Ac:n<9223372036854775807)];exact By.next (n+1) rfl ⟨hlt,ha,rfl⟩ Ac
 .have i1:¬(n:Int)<((l.map Cc).length:Int):=by rw[hlen];omega
  rw[AT Hh,Cf] at ha;simp only[Ci,i1,A3,AR,AM,ha]
def Ā{U:Type}{p:U->Bool}{l:List U}:decide (0<=Cf p 0 l)=l.any p:=by
 have:l.any p=(l.find? p).isSome:=by rw[Lc,aOR,Ka]
 rw[this];rcases Gs (p:=p) (l:=l) (k:=0) with⟨h1,h2⟩|⟨n,a,h1,h2,b⟩
 .rw[h1,h2];simp
 .rw[h1,b];simp
def aMP{v:Aa}{l:List Ak}(hv:HN l v)(hn:l.length<9223372036854775807)(h:Ah){f:FuncId}{caps:List Aa}{p:Ak->Bool}(hk:f<=99999)(hp:∀a∈l,Ca cx f (.str a::caps) h (.bool (p a)) h):
  Ca cx 149 [v,.func (.func f) [] caps] h (.bool (l.any p)) h:=by
 rw[Ae,uR,aBo];simp only[Ci,(aMO hv hn h hk hp).Ad,Ā]
def aHK(t:DU)(ht:t.JN.length<=AK)(w:Ak)(hw:w.length<=AK)(h:Ah):Ca cx 148 [.str w,.BW (B2 t av)] h (.bool (IA t.JN w)) h:=by
 have hc:(t.JN.take w.length).length<=AK:=by rw[AB];omega
 rw[Ae,uQ,t148,B2];simp only[Ci];refine⟨λh=>?_,λh=>?_⟩
 .have h:w.length<=t.JN.length:=by omega
  simp only[Ci,ez h,(sd _ _ hc hw).BG rfl rfl,IA,h]
 .have h:¬w.length<=t.JN.length:=by omega
  simp[h,IA]
def Qp(t:DU):Bool:=
 if t.k≠1 then false else if t.q=true then true else if t.hn=false then true else if t.name≠aTu then true else if t.hp=false then false
 else Hc.any (VD t.JN)||qG.any (IA t.JN)||(!t.hs&&ZX.any (IA t.JN))
def f75(t:DU)(ht:t.JN.length<=AK)(h:Ah):Ca cx 67 [.agg (B2 t av)] h (.bool (Qp t)) h:=by
 have c:=Es (ws:=qG) (args:=qG.map Aa.str) rfl AI;have g:=Es (ws:=Hc) (args:=Hc.map Aa.str) rfl AI;generalize v:(Aa.sl 1 (qG.map Cc))=E at c;generalize hz2:(Aa.sl 1 (Hc.map Cc))=z2 at g;simp only[qG,Hc,qE1,qE2,qE3,A0,Dc] at c g;try dsimp only at c g
 rw[<-v] at c;rw[<-hz2] at g;have w1:∀w∈qG,w.length<=AK:=D8;have A:∀w∈ZX,w.length<=AK:=D8;have C:∀w∈Hc,w.length<=AK:=D8;have hv:HN Hc (.sl 1 (Hc.map Cc)):= .mk;have hlen:(Hc.map Cc).length=3:=rfl;have jS:Hc.length=3:=rfl;have B:=λw hw=>aHK (av:=av) t ht w hw h;have i:=λk=>(aMP (l:=qG) .mk AI h (f:=148) (caps:=[.BW (B2 t av)]) (p:=IA t.JN) AI (λa ha=>aHK (av:=av) t ht a (w1 a ha) h)).Ad (k:=k) (Q:=λx vs h1=>x= .ret/\vs=[.bool (Qp t)]/\h1=h);have u:=λk=>(B qA (A _ (by simp[ZX]))).Ad (k:=k) (Q:=λx vs h1=>x= .ret/\vs=[.bool (Qp t)]/\h1=h);have s:=λk=>(B qB (A _ (by simp[ZX]))).Ad (k:=k) (Q:=λx vs h1=>x= .ret/\vs=[.bool (Qp t)]/\h1=h);have z:ZX.any (IA t.JN)=(IA t.JN qA||IA t.JN qB):=by simp[ZX]
 have hq:Qp t=Qp t:=rfl;conv at hq=>rhs;unfold Qp
 rw[z] at hq;rw[Ae,qc,t67,B2];rw[B2] at i u s;simp only[Pg,P4,AJ,Br,Nat.reduceAdd,↓reduceIte,LU,YP,aIY];by_cases e:t.k=1;rotate_left;.rw[Af e] at hq;simp only[abS,e,CA,hq]
 rw[Ag (by simp[e])] at hq;simp only[abS,e,CA];cases r:t.q with
 |true=>rw[Af r] at hq;simp only[Ci,hq]
 |false=>
  rw[Ag (by simp[r])] at hq;simp only[Ci];cases o:t.hn with
  |false=>rw[Af o] at hq;simp only[abS,hq]
  |true=>
   rw[Ag (by simp[o])] at hq;simp only[abS];by_cases d:t.name=aTu;rotate_left;.rw[Af d] at hq;simp only[abS,d,hq]
   rw[Ag (by simp[d])] at hq;simp only[abS,d];cases m:t.hp with
   |false=>rw[Af m] at hq;simp only[abS,hq]
   |true=>
    rw[Ag (by simp[m])] at hq;simp only[abS,g,Bz.len hv,hlen];refine B1 (λn:Nat=>[.bool false,I (n:Int)]) (λn h1=>n<=Hc.length/\Hc.any (VD t.JN)=(Hc.drop n).any (VD t.JN)/\h1=h) (λn=>Hc.length-n) 0 rfl ⟨Bd _,rfl,rfl⟩ ?_;rintro n h1 ⟨Ø,ha,rfl⟩;rcases Bk n Hc.length with hlt|Hh
    .have i1:(n:Int)<((3:Nat):Int):=by omega
     have z:(Hc.map Cc)[n]'(by rw[hlen];omega)=Cc Hc[n]:=Ax;have D:decide (EH t.JN=EH Hc[n])=VD t.JN Hc[n]:=rfl;rw[Az hlt,Rt] at ha;simp only[Ci,bK,i1,Bz.FH hv (show n<(Hc.map Cc).length by rw[hlen];omega),z,Cc,(sd _ _ ht (C _ (A5 hlt))).BG rfl rfl,D,CR (Ac:n<9223372036854775807)];rw[C9];refine⟨λb=>?_,λb=>?_⟩;.rw[b,OS] at ha;rw[ha,OS,OS] at hq;rw[hq]
     .rw[b,I8] at ha;exact By.next (n+1) rfl ⟨hlt,ha,rfl⟩ Ac
    .have i1:¬(n:Int)<((3:Nat):Int):=by omega
     rw[AT Hh,lE] at ha;rw[ha,I8] at hq;simp only[abS,i1];cases j:t.hs with
     |true=>rw[j] at hq;rw[e,r,o,d,m,j] at i;simp only[abS,c,i];rw[hq];simp
     |false=>
      rw[j] at hq;rw[e,r,o,d,m,j] at i u s;simp only[qA,qB] at u s hq;simp only[abS,↓reduceIte,c,i,u,s,Cz,Nat.reduceLeDiff];rw[C9,C9];refine⟨λb=>?_,λb=>⟨λy=>?_,λy=>?_⟩⟩;.rw[hq,b];simp
      .rw[hq,y];simp
      .rw[hq,b,y];simp
end
def aHL{t:DU}{av:Aa}(hv:A8 t.Av av)(hl:t.Av.length<=1000000):∃YH,A8 t.Av YH/\∀h,Ca cx 19 [.agg (B2 t av)] h (.agg (B2 t YH)) h:=by obtain⟨u,e,hu⟩:=Bz.ni (l:=([]:List A7)) (f:=A7.row) (v:= .slnil) (b:=40) (.inr ⟨rfl,rfl⟩) hv (by simp;have:AK=140737488355328:=rfl;omega);refine⟨u,hu,λh=>?_⟩;have hc:u.cells=[u]:=Bz.cells hu;rw[Ae,ou,t19];simp only[Ci,Nat.reduceLeDiff,↓reduceIte,B2,e,hc,AJ,Br,LU,YP]
end Go.Am
end
section
end
