/- Lemmas -/
import Derived.Test.YtglbboamemndeaaGreatDoorS28
set_option linter.all false
set_option maxRecDepth 100000
section
namespace Go.Am
open Go
section
variable{h h':Ai}{bi si:Nat}{b b':BS}{F F':Nat->Prop}{n o a:Nat}{t:DJ}{av:Aa}
def aJj(w:SW h bi b F si t av)(g:Gz b (n+4*a+4) o a)(ht:t.Sm)(hv:A6 t.As av):Fc h F 167 [Pt si 0] (.tuple []) bi (b.tn t):=by
 have x:Gz b (n+4) o a:=g.dn Ac;have g1:Gz b.B7 (n+4+4*a) o a:=g.B7.dn Ac;unfold BS.tn;by_cases l:t.name=aQ6;.rw[Ag l];have l0:=w.B4;obtain⟨h1,z,k,e,d⟩:=um w x ht hv;have w1:=w.after e d;have l1:=w1.B4;obtain⟨r2,i,f⟩:=aI2 e 5;have j:=w1.after i f;have r:=j.B4;refine⟨_,_,?_,i,d.trans f⟩;rw[Ae,Ok];simp only[abS,l0,k.Ad,l1,r2,A3 l]
 rw[Af l];by_cases m:t.name=aRc;.rw[Ag m];have l0:=w.B4;obtain⟨h1,z,k,e,d⟩:=Yh w.pb x ht hv 2;have w1:=w.after e d;have l1:=w1.B4;obtain⟨r2,i,f⟩:=ub e true;have j:=w1.after i f;have r:=j.B4;obtain⟨y,q,p⟩:=Kv i false;have u:=j.after q p;have l3:=u.B4;refine⟨_,_,?_,q,(d.trans f).trans p⟩;rw[Ae,Ok];simp only[abS,l0,k.Ad,l1,r2,r,y,l,A3 m]
 rw[Af m];by_cases s:t.name=aR9;.rw[Ag s];have l0:=w.B4;obtain⟨h1,z,k,e,d⟩:=IY w.pb g;have w1:=w.after e d;have l1:=w1.B4;obtain⟨h2,E,r2,i,f⟩:=CV e g1;have j:=w1.after i f;have r:=j.B4;obtain⟨y,q,p⟩:=Kv i false;have u:=j.after q p;have l3:=u.B4;obtain⟨G,H,D,B,A⟩:=Yh q (g1.AU.eq (c:={b.B7.AU with fs:=false}) rfl rfl rfl rfl rfl) ht hv 3;have C:=u.after B A;have l4:=C.B4;refine⟨_,_,?_,B,((d.trans f).trans p).trans A⟩;rw[Ae,Ok];simp only[abS,l0,k.Ad,l1,r2.Ad,r,y,l3,D.Ad,l,m,A3 s]
 rw[Af s];by_cases v:t.name=aRw;.rw[Ag v];have l0:=w.B4;obtain⟨k,e,d⟩:=Kv w.pb false;have w1:=w.after e d;have l1:=w1.B4;obtain⟨h2,E,r2,i,f⟩:=Yh e (x.eq (c:={b with fs:=false}) rfl rfl rfl rfl rfl) ht hv 3;have j:=w1.after i f;have r:=j.B4;refine⟨_,_,?_,i,d.trans f⟩;rw[Ae,Ok];simp only[abS,l0,k,l1,r2.Ad,l,m,s,A3 v]
 .rw[Af v];have l0:=w.B4;obtain⟨h1,z,k,e,d⟩:=Yh w.pb x ht hv 3;have w1:=w.after e d;have l1:=w1.B4;refine⟨_,_,?_,e,d⟩;rw[Ae,Ok];simp only[abS,l0,k.Ad,l,m,s,v]
def oR{nm:Aj}{l:List AZ}{sp:Int}:(b.DY nm l sp).mode=b.mode:=by
 unfold BS.DY;split
 .rename_i hs;have e:∀p,(b.E7 nm l sp p).mode=b.mode:=λp=>by unfold BS.E7;rw[Ag hs]
  simp only[e]
 .rfl
def aG:∀{l:List Ci} {b:BS},(BS.Ke l b).2.mode=b.mode
 |[],b=>rfl
 |e::l,b=>by rw[BS.Ke];simp only;rw[aG,oR]
def aJk(w:SW h bi b F si t av)(g:Gz b (n+4*a+4) o a)(ht:t.Sm)(hv:A6 t.As av):Fc h F 179 [Pt si 0] (.tuple []) bi (b.Ov t):=by
 have g1:Gz b (n+4+4*a) o a:=g.dn Ac;have em:(b.AU.Cz t).mode=b.mode:=by unfold BS.Cz;rw[oR];unfold BS.AU;simp only;exact aG
 unfold BS.Ov;by_cases x:b.mode=9;.rw[Ag (.inl x)];have l0:=w.B4;obtain⟨h1,C,u,p,f⟩:=CV w.pb g1;have w1:=w.after p f;have l1:=w1.B4;obtain⟨h2,B,r2,m,e⟩:=EW p g1.AU ht hv;have j:=w1.after m e;have v:=j.B4;obtain⟨s,l,d⟩:=Kv m false;have i:=j.after l d;have l3:=i.B4;simp only[em] at l3;obtain⟨r,k,c⟩:=FB l 17;have q:=i.after k c;have l4:=q.B4;refine⟨_,_,?_,k,((f.trans e).trans d).trans c⟩;rw[Ae,MF];simp only[abS,l0,u.Ad,l1,r2.Ad,v,s,l3,r,A3 x]
 by_cases y:b.mode=11;.rw[Ag (.inr (.inl y))];have l0:=w.B4;obtain⟨h1,C,u,p,f⟩:=CV w.pb g1;have w1:=w.after p f;have l1:=w1.B4;obtain⟨h2,B,r2,m,e⟩:=EW p g1.AU ht hv;have j:=w1.after m e;have v:=j.B4;obtain⟨s,l,d⟩:=Kv m false;have i:=j.after l d;have l3:=i.B4;simp only[em] at l3;obtain⟨r,k,c⟩:=FB l 17;have q:=i.after k c;have l4:=q.B4;refine⟨_,_,?_,k,((f.trans e).trans d).trans c⟩;rw[Ae,MF];simp only[abS,l0,u.Ad,l1,r2.Ad,v,s,l3,r,x,A3 y]
 by_cases z:b.mode=13;.rw[Ag (.inr (.inr (.inl z)))];have l0:=w.B4;obtain⟨h1,C,u,p,f⟩:=CV w.pb g1;have w1:=w.after p f;have l1:=w1.B4;obtain⟨h2,B,r2,m,e⟩:=EW p g1.AU ht hv;have j:=w1.after m e;have v:=j.B4;obtain⟨s,l,d⟩:=Kv m false;have i:=j.after l d;have l3:=i.B4;simp only[em] at l3;obtain⟨r,k,c⟩:=FB l 17;have q:=i.after k c;have l4:=q.B4;refine⟨_,_,?_,k,((f.trans e).trans d).trans c⟩;rw[Ae,MF];simp only[abS,l0,u.Ad,l1,r2.Ad,v,s,l3,r,x,y,A3 z]
 by_cases A:b.mode=14;.rw[Ag (.inr (.inr (.inr (.inl A))))];have l0:=w.B4;obtain⟨h1,C,u,p,f⟩:=CV w.pb g1;have w1:=w.after p f;have l1:=w1.B4;obtain⟨h2,B,r2,m,e⟩:=EW p g1.AU ht hv;have j:=w1.after m e;have v:=j.B4;obtain⟨s,l,d⟩:=Kv m false;have i:=j.after l d;have l3:=i.B4;simp only[em] at l3;obtain⟨r,k,c⟩:=FB l 17;have q:=i.after k c;have l4:=q.B4;refine⟨_,_,?_,k,((f.trans e).trans d).trans c⟩;rw[Ae,MF];simp only[abS,l0,u.Ad,l1,r2.Ad,v,s,l3,r,x,y,z,A3 A]
 by_cases D:b.mode=15;.rw[Ag (.inr (.inr (.inr (.inr D))))];have l0:=w.B4;obtain⟨h1,C,u,p,f⟩:=CV w.pb g1;have w1:=w.after p f;have l1:=w1.B4;obtain⟨h2,B,r2,m,e⟩:=EW p g1.AU ht hv;have j:=w1.after m e;have v:=j.B4;obtain⟨s,l,d⟩:=Kv m false;have i:=j.after l d;have l3:=i.B4;simp only[em] at l3;obtain⟨r,k,c⟩:=FB l 17;have q:=i.after k c;have l4:=q.B4;refine⟨_,_,?_,k,((f.trans e).trans d).trans c⟩;rw[Ae,MF];simp only[abS,l0,u.Ad,l1,r2.Ad,v,s,l3,r,x,y,z,A,A3 D]
 .rw[Af (by simp[x,y,z,A,D])];have l0:=w.B4;obtain⟨h1,C,u,p,f⟩:=CV w.pb g1;have w1:=w.after p f;have l1:=w1.B4;obtain⟨h2,B,r2,m,e⟩:=EW p g1.AU ht hv;have j:=w1.after m e;have v:=j.B4;obtain⟨s,l,d⟩:=Kv m false;have i:=j.after l d;have l3:=i.B4;simp only[em] at l3;obtain⟨r,k,c⟩:=FB l 16;have q:=i.after k c;have l4:=q.B4;refine⟨_,_,?_,k,((f.trans e).trans d).trans c⟩;rw[Ae,MF];simp only[abS,l0,u.Ad,l1,r2.Ad,v,s,l3,r,x,y,z,A,D]
def aJl(w:SW h bi b F si t av)(g:Gz b (n+4*a+4) o a)(ht:t.Sm)(hv:A6 t.As av):Fc h F 171 [Pt si 0] (.tuple []) bi (b.M4 t):=by
 have g1:Gz b (n+4+4*a) o a:=g.dn Ac;unfold BS.M4;cases r:Bf [aQx] (Fs b.AA) with
 |true=>rw[Ag rfl];have l0:=w.B4;have l:=oL w.pb g;have e:=aAJ (Fs b.AA) aQx h;rw[r] at e;obtain⟨h1,x,k,i,d⟩:=ON w.pb g1;have w1:=w.after i d;have l1:=w1.B4;obtain⟨h2,v,r2,f,c⟩:=CV i g1.Hj;have j:=w1.after f c;have q:=j.B4;obtain⟨y,z,u,p,m⟩:=EW f g1.Hj.AU ht hv;have s:=j.after p m;have l3:=s.B4;refine⟨_,_,?_,p,(d.trans c).trans m⟩;rw[Ae,Vz];simp only[abS,l0,l.Ad,e.Ad,k.Ad,l1,r2.Ad,q,u.Ad]
 |false=>rw[Af Ax];have l0:=w.B4;have l:=oL w.pb g;have e:=aAJ (Fs b.AA) aQx h;rw[r] at e;obtain⟨h1,x,k,i,d⟩:=CV w.pb g1;have w1:=w.after i d;have l1:=w1.B4;obtain⟨h2,v,r2,f,c⟩:=EW i g1.AU ht hv;have j:=w1.after f c;have q:=j.B4;refine⟨_,_,?_,f,d.trans c⟩;rw[Ae,Vz];simp only[abS,l0,l.Ad,e.Ad,k.Ad,l1,r2.Ad]
def aJm(w:SW h bi b F si t av)(g:Gz b (n+4) o a)(ht:t.Sm)(hv:A6 t.As av):Fc h F 168 [Pt si 0] (.tuple []) bi (b.Yf t):=by
 unfold BS.Yf;cases p:b.has [aRn] with
 |true=>
  rw[Ag rfl];by_cases l:t.name=[114,112];.rw[Ag (.inl l)];have l0:=w.B4;have d:=SR w g aRn;rw[p] at d;obtain⟨_,h1,q,j,e,c⟩:=LL w.pb g aRD;have w1:=w.after e c;have l1:=w1.B4;obtain⟨h2,s,r2,i,f⟩:=EW e (g.IH Cq) ht hv;have k:=w1.after i f;have r:=k.B4;refine⟨_,_,?_,i,c.trans f⟩;rw[Ae,Qf];simp only[abS,l0,d.Ad,j.Ad,l1,r2.Ad,A3 l]
  by_cases m:t.name=[114,116];.rw[Ag (.inr m)];have l0:=w.B4;have d:=SR w g aRn;rw[p] at d;obtain⟨_,h1,q,j,e,c⟩:=LL w.pb g aRD;have w1:=w.after e c;have l1:=w1.B4;obtain⟨h2,s,r2,i,f⟩:=EW e (g.IH Cq) ht hv;have k:=w1.after i f;have r:=k.B4;refine⟨_,_,?_,i,c.trans f⟩;rw[Ae,Qf];simp only[abS,l0,d.Ad,j.Ad,l1,r2.Ad,l,A3 m]
  .rw[Af (by simp[l,m])];have l0:=w.B4;have d:=SR w g aRn;rw[p] at d;obtain⟨_,h1,q,j,e,c⟩:=LL w.pb g [];have w1:=w.after e c;have l1:=w1.B4;obtain⟨h2,s,r2,i,f⟩:=EW e (g.IH Cq) ht hv;have k:=w1.after i f;have r:=k.B4;refine⟨_,_,?_,i,c.trans f⟩;rw[Ae,Qf];simp only[abS,l0,d.Ad,j.Ad,l1,r2.Ad,l,m]
 |false=>rw[Af Ax];have l0:=w.B4;have d:=SR w g aRn;rw[p] at d;obtain⟨h1,q,j,e,c⟩:=EW w.pb g ht hv;have w1:=w.after e c;have l1:=w1.B4;refine⟨_,_,?_,e,c⟩;rw[Ae,Qf];simp only[abS,l0,d.Ad,j.Ad]
def aJn(w:SW h bi b F si t av)(g:Gz b (n+4*a+4) o a)(ht:t.Sm)(hv:A6 t.As av):Fc h F 169 [Pt si 0] (.tuple []) bi (b.J0 t):=by
 have g1:Gz b (n+4+4*a) o a:=g.dn Ac;unfold BS.J0;dsimp only;by_cases m:t.name=aRK
 .rw[Ag m];cases c:t.sc with
  |true=>rw[Ag rfl];have l0:=w.B4;rw[c] at l0;obtain⟨h1,v,l,i,e⟩:=CV w.pb g1;have w1:=w.after i e;have l1:=w1.B4;rw[c] at l1;obtain⟨h2,u,r2,f,d⟩:=jP i g1.AU ht hv 3;have k:=w1.after f d;have j:=k.B4;rw[c] at j;obtain⟨x,y,s,q,p⟩:=ON f (g1.AU.MN ht.As ht.name);have r:=k.after q p;have l3:=r.B4;refine⟨_,_,?_,q,(e.trans d).trans p⟩;rw[Ae,Qg];simp only[abS,l0,l.Ad,l1,r2.Ad,j,s.Ad,A3 m]
  |false=>rw[Af Ax];have l0:=w.B4;rw[c] at l0;obtain⟨h1,v,l,i,e⟩:=CV w.pb g1;have w1:=w.after i e;have l1:=w1.B4;rw[c] at l1;obtain⟨h2,u,r2,f,d⟩:=jP i g1.AU ht hv 3;have k:=w1.after f d;have j:=k.B4;rw[c] at j;refine⟨_,_,?_,f,e.trans d⟩;rw[Ae,Qg];simp only[abS,l0,l.Ad,l1,r2.Ad,j,A3 m]
 .rw[Af m];cases c:t.sc with
  |true=>rw[Ag rfl];have l0:=w.B4;rw[c] at l0;obtain⟨h1,v,l,i,e⟩:=CV w.pb g1;have w1:=w.after i e;have l1:=w1.B4;rw[c] at l1;obtain⟨h2,u,r2,f,d⟩:=jP i g1.AU ht hv 2;have k:=w1.after f d;have j:=k.B4;rw[c] at j;obtain⟨x,y,s,q,p⟩:=ON f (g1.AU.MN ht.As ht.name);have r:=k.after q p;have l3:=r.B4;refine⟨_,_,?_,q,(e.trans d).trans p⟩;rw[Ae,Qg];simp only[abS,l0,l.Ad,l1,r2.Ad,j,s.Ad,m]
  |false=>rw[Af Ax];have l0:=w.B4;rw[c] at l0;obtain⟨h1,v,l,i,e⟩:=CV w.pb g1;have w1:=w.after i e;have l1:=w1.B4;rw[c] at l1;obtain⟨h2,u,r2,f,d⟩:=jP i g1.AU ht hv 2;have k:=w1.after f d;have j:=k.B4;rw[c] at j;refine⟨_,_,?_,f,e.trans d⟩;rw[Ae,Qg];simp only[abS,l0,l.Ad,l1,r2.Ad,j,m]
def aEV(w:SW h bi b F si t av)(g:Gz b (n+1000) o a)(ht:t.Sm)(hv:A6 t.As av):Fc h F 172 [Pt si 0] (.tuple []) bi (b.Kt t):=by
 unfold BS.Kt;by_cases k:b.Vj;.rw[Ag (.inl k)];have l0:=w.B4;have d:=Rp w.pb g;rw[Ak k] at d;refine⟨_,_,?_,w.pb,.refl⟩;rw[Ae,Ol];simp only[abS,l0,d.Ad]
 by_cases q:b.AA=[];.rw[Ag (.inr q)];have l0:=w.B4;have d:=Rp w.pb g;rw[Ah k] at d;have i:=Yj w.pb;refine⟨_,_,?_,w.pb,.refl⟩;rw[Ae,Ol];simp only[B9,YU,l0,d.Ad,i.Ad,show((b.AA.length:Int)=0)=True from A3 (by rw[q];rfl)]
 have j:¬(b.AA.length:Int)=0:=λe=>q (Cy Ac);rw[Af (by simp[k,q])];by_cases p:t.name=aQg;.rw[Ag p];have l0:=w.B4;have d:=Rp w.pb g;rw[Ah k] at d;have i:=Yj w.pb;have f:=S_ w.pb 0;obtain⟨h1,A,r,m,l⟩:=yM w.pb g ht hv (DO b.AA 0).node;have w1:=w.after m l;have l1:=w1.B4;refine⟨_,_,?_,m,l⟩;rw[Ae,Ol];simp only[abS,l0,d.Ad,i.Ad,f.Ad,r.Ad,j,A3 p,Uz,Dj]
 rw[Af p];cases v:b.Lm with
 |true=>rw[Ag rfl];have l0:=w.B4;have d:=Rp w.pb g;rw[Ah k] at d;have i:=Yj w.pb;have f:=uq w;rw[v] at f;obtain⟨r,m,l⟩:=Kv w.pb false;have w1:=w.after m l;have l1:=w1.B4;obtain⟨h2,z,r2,u,s⟩:=yM m (g.eq (c:={b with fs:=false}) rfl rfl rfl rfl rfl) ht hv (DO b.AA 1).node;have x:=w1.after u s;have y:=x.B4;refine⟨_,_,?_,u,l.trans s⟩;rw[Ae,Ol];simp only[abS,l0,d.Ad,i.Ad,f.Ad,r,l1,r2.Ad,j,p]
 |false=>rw[Af Ax];have l0:=w.B4;have d:=Rp w.pb g;rw[Ah k] at d;have i:=Yj w.pb;have f:=uq w;rw[v] at f;refine⟨_,_,?_,w.pb,.refl⟩;rw[Ae,Ol];simp only[abS,l0,d.Ad,i.Ad,f.Ad,j,p]
def aJo(w:SW h bi b F si t av)(g:Gz b (n+4*a+5) o a)(ht:t.Sm):Fc h F 83 [Pt si 0] (.tuple []) bi (b.L9 t):=by
 have g1:Gz b (n+5+4*a) o a:=g.dn Ac;unfold BS.L9;by_cases j:t.r=0;.rw[Ag j];have l0:=w.B4;refine⟨_,_,?_,w.pb,.refl⟩;rw[Ae,XL];simp only[abS,l0,A3 j]
 rw[Af j];dsimp only;by_cases l:t.He;.rw[Ag l];have l0:=w.B4;obtain⟨h1,y,m,i,d⟩:=CV w.pb g1;have w1:=w.after i d;have l1:=w1.B4;obtain⟨h2,x,r2,f,c⟩:=Yg i g1.AU ht.r;have k:=w1.after f c;have p:=k.B4;have e:=Ro t av h2;rw[Ak l] at e;refine⟨_,_,?_,f,d.trans c⟩;rw[Ae,XL];simp only[abS,l0,m.Ad,l1,r2.Ad,p,e.Ad,j]
 .rw[Af l];have l0:=w.B4;obtain⟨h1,y,m,i,d⟩:=CV w.pb g1;have w1:=w.after i d;have l1:=w1.B4;obtain⟨h2,x,r2,f,c⟩:=Yg i g1.AU ht.r;have k:=w1.after f c;have p:=k.B4;have e:=Ro t av h2;rw[Ah l] at e;obtain⟨v,s,q⟩:=Kv f false;have u:=k.after s q;have l3:=u.B4;refine⟨_,_,?_,s,(d.trans c).trans q⟩;rw[Ae,XL];simp only[abS,l0,m.Ad,l1,r2.Ad,p,e.Ad,v,j]
def aEW(w:SW h bi b F si t av)(g:Gz b n o a):Fc h F 181 [Pt si 0] (.tuple []) bi (b.Gx t):=by
 unfold BS.Gx;cases f:b.has [t.name] with
 |true=>rw[Ag rfl];have l0:=w.B4;have c:=SR w g t.name;rw[f] at c;obtain⟨h1,j,i,e,d⟩:=jV w g t.name [];have w1:=w.after e d;have l1:=w1.B4;refine⟨_,_,?_,e,d⟩;rw[Ae,VF];simp only[B9,l0,c.Ad,i.Ad]
 |false=>rw[Af Ax];have l0:=w.B4;have c:=SR w g t.name;rw[f] at c;refine⟨_,_,?_,w.pb,.refl⟩;rw[Ae,VF];simp only[B9,l0,c.Ad]
def aJp(w:SW h bi b F si t av)(g:Gz b n o a):Fc h F 184 [Pt si 0] (.tuple []) bi (b.LJ t):=by
 unfold BS.LJ;cases j:b.has [t.name] with
 |true=>rw[Ag rfl];have l0:=w.B4;have c:=SR w g t.name;rw[j] at c;obtain⟨h1,q,l,i,e⟩:=jV w g t.name [];have w1:=w.after i e;have l1:=w1.B4;obtain⟨_,h2,p,r2,f,d⟩:=yN i g.Ds;have k:=w1.after f d;have m:=k.B4;refine⟨_,_,?_,f,e.trans d⟩;rw[Ae,VH];simp only[abS,l0,c.Ad,l.Ad,l1,r2.Ad]
 |false=>rw[Af Ax];have l0:=w.B4;have c:=SR w g t.name;rw[j] at c;refine⟨_,_,?_,w.pb,.refl⟩;rw[Ae,VH];simp only[B9,l0,c.Ad]
def aJq(w:SW h bi b F si t av)(g:Gz b n o a):Fc h F 183 [Pt si 0] (.tuple []) bi b.Ku:=by
 have d:EH h F (h++[.Dw]) F:=⟨Ax,λi hi _=>An hi,λ_ hf=> .inl hf⟩;have j:=uc aAM h;have w:=w.after w.pb.Jn d;unfold BS.Ku;have c:=SP w.pb g 1 (CO (ws:=C9)) AM;have e0:b.OM 1 (Bf C9)=b.has C9:=rfl;rw[e0] at c;cases m:b.has C9 with
 |true=>rw[m] at c;rw[Ag rfl];have l0:=w.B4;obtain⟨_,h1,u,q,l,f⟩:=LL w.pb g [];have w1:=w.after l f;have l1:=w1.B4;obtain⟨_,h2,s,r2,k,e⟩:=jQ l (g.IH Cq) (CO (ws:=C9)) AM;have p:=w1.after k e;have r:=p.B4;refine⟨_,_,?_,k,d.trans (f.trans e)⟩;rw[Ae,VG];simp only[abS,j.Ad,l0,c.Ad,q.Ad,l1,r2.Ad]
 |false=>rw[m] at c;rw[Af Ax];have l0:=w.B4;refine⟨_,_,?_,w.pb,d⟩;rw[Ae,VG];simp only[abS,j.Ad,l0,c.Ad]
def aEX(w:SW h bi b F si t av)(g:Gz b n o a):Fc h F 180 [Pt si 0] (.bool (b.Ow t).2) bi (b.Ow t).1:=by
 unfold BS.Ow;cases f:b.has [aQk] with
 |true=>rw[Ag rfl];have l0:=w.B4;have c:=SR w g aQk;rw[f] at c;obtain⟨i,e,d⟩:=FB w.pb 19;have w1:=w.after e d;have l1:=w1.B4;refine⟨_,_,?_,e,d⟩;rw[Ae,VE];simp only[abS,l0,c.Ad,i,l1]
 |false=>rw[Af Ax];have l0:=w.B4;have c:=SR w g aQk;rw[f] at c;refine⟨_,_,?_,w.pb,.refl⟩;rw[Ae,VE];simp only[abS,l0,c.Ad]
def aJr(w:SW h bi b F si t av)(g:Gz b n o a):Fc h F 186 [Pt si 0] (.tuple []) bi (b.MJ t):=by
 unfold BS.MJ;by_cases i:b.Vj;.rw[Ag i];have l0:=w.B4;have e:=Rp w.pb g;rw[Ak i] at e;obtain⟨h1,B,f,c,d⟩:=aEW w g;have w1:=w.after c d;have l1:=w1.B4;refine⟨_,_,?_,c,d⟩;rw[Ae,Qi];simp only[abS,l0,e.Ad,f.Ad]
 rw[Af i];have g1:Gz {b with IG:=0} n o a:=g.eq rfl rfl rfl rfl rfl;by_cases k:b.IG=0;.rw[Af (by simp[k])];have l0:=w.B4;have e:=Rp w.pb g;rw[Ah i] at e;obtain⟨f,c,d⟩:=jR w.pb 0;have w1:=w.after c d;have l1:=w1.B4;refine⟨_,_,?_,c,d⟩;rw[Ae,Qi];simp only[abS,l0,e.Ad,f,l1,A3 k,Cj]
 cases s:b.OM 1 (BK b.IG) with
 |true=>rw[Ag ⟨k,rfl⟩];have l0:=w.B4;have e:=Rp w.pb g;rw[Ah i] at e;obtain⟨f,c,d⟩:=jR w.pb 0;have w1:=w.after c d;have l1:=w1.B4;have j:=oK c g1 1 b.IG;rw[show({b with IG:=0}:BS).OM 1 (BK b.IG)=true from s] at j;obtain⟨_,h2,A,r2,r,m⟩:=LL c g1 [];have p:=w1.after r m;have x:=p.B4;obtain⟨_,y,z,v,q,l⟩:=oJ r (g1.IH (lo:=Dd (EG []) Da b.AA) Cq) b.IG;have u:=p.after q l;have l3:=u.B4;refine⟨_,_,?_,q,(d.trans m).trans l⟩;rw[Ae,Qi];simp only[abS,l0,e.Ad,f,l1,r2.Ad,x,v.Ad,k,Cj,j.Ad]
 |false=>rw[Af Ax];have l0:=w.B4;have e:=Rp w.pb g;rw[Ah i] at e;obtain⟨f,c,d⟩:=jR w.pb 0;have w1:=w.after c d;have l1:=w1.B4;have j:=oK c g1 1 b.IG;rw[show({b with IG:=0}:BS).OM 1 (BK b.IG)=false from s] at j;refine⟨_,_,?_,c,d⟩;rw[Ae,Qi];simp only[abS,l0,e.Ad,f,l1,k,Cj,j.Ad]
def aEY(w:SW h bi b F si t av)(g:Gz b (n+1004) o a)(ht:t.Sm)(hv:A6 t.As av)(i:¬t.st [aQg]):Fc h F 158 [Pt si 0] (.bool (b.CJ t).2) bi (b.CJ t).1:=by have l0:=w.B4;obtain⟨h1,j,f,d,c⟩:=jU w.pb g ht hv (λe=>absurd e i);have w1:=w.after d c;have l1:=w1.B4;refine⟨_,_,?_,d,c⟩;rw[Ae,fB];simp only[abS,l0,f.Ad]
def aJs(w:SW h bi b F si t av)(g:Gz b (n+8*(4*(o+8)+10)) o a):Fc h F 182 [Pt si 0] (.tuple []) bi (b.Dh t.name):=by have l0:=w.B4;obtain⟨h1,f,e,d,c⟩:=Yi w.pb g t.name;have w1:=w.after d c;have l1:=w1.B4;refine⟨_,_,?_,d,c⟩;rw[Ae,fJ];simp only[abS,l0,e.Ad]
def aJt(x:Aa):B2 cx 166 [x] h ff h:=by rw[Ae,fH];simp only[B9]
def aJu(w:SW h bi b F si t av)(g:Gz b (n+4) o a):Fc h F 185 [Pt si 0] (.tuple []) bi (b.J1 t):=by
 unfold BS.J1;dsimp only;by_cases f:t.name=[112]
 .rw[Ag f,Ag f];have c:=SP w.pb g 3 (CO (ws:=[t.name])) Ax;cases i:b.OM 3 (Bf [t.name]) with
  |true=>rw[i] at c;rw[Ag rfl];have l0:=w.B4;obtain⟨h1,l,j,e,d⟩:=jV w g t.name t.name;have w1:=w.after e d;have l1:=w1.B4;refine⟨_,_,?_,e,d⟩;rw[Ae,MG];simp only[abS,l0,j.Ad,A3 f,c.Ad,oO]
  |false=>rw[i] at c;rw[Af Ax];have l0:=w.B4;have r:=ud [112] h;obtain⟨h1,l,j,e,d⟩:=EW (t:=Ll [112]) (av:= .slnil) w.pb g (I4 AM) (.inr ⟨rfl,rfl⟩);have w1:=w.after e d;have l1:=w1.B4;obtain⟨h2,u,r2,p,m⟩:=jV w1 (g.MN (I4 AM).As (I4 AM).name) t.name t.name;have q:=w1.after p m;have s:=q.B4;refine⟨_,_,?_,p,d.trans m⟩;rw[Ae,MG];simp only[abS,l0,r.Ad,j.Ad,r2.Ad,A3 f,c.Ad,oO,Cj,Dj]
 rw[Af f,Af f];by_cases k:t.name=[108,105]
 .rw[Ag k];have c:=SP w.pb g 2 (CO (ws:=[t.name])) Ax;cases i:b.OM 2 (Bf [t.name]) with
  |true=>rw[i] at c;rw[Ag rfl];have l0:=w.B4;obtain⟨h1,l,j,e,d⟩:=jV w g t.name t.name;have w1:=w.after e d;have l1:=w1.B4;refine⟨_,_,?_,e,d⟩;rw[Ae,MG];simp only[abS,l0,j.Ad,f,A3 k,c.Ad,oO]
  |false=>rw[i] at c;rw[Af Ax];have l0:=w.B4;refine⟨_,_,?_,w.pb,.refl⟩;rw[Ae,MG];simp only[abS,l0,eq_false f,c.Ad,A3 k,oO,Cj]
 .rw[Af k];have c:=SP w.pb g 1 (CO (ws:=[t.name])) Ax;cases i:b.OM 1 (Bf [t.name]) with
  |true=>rw[i] at c;rw[Ag rfl];have l0:=w.B4;obtain⟨h1,l,j,e,d⟩:=jV w g t.name t.name;have w1:=w.after e d;have l1:=w1.B4;refine⟨_,_,?_,e,d⟩;rw[Ae,MG];simp only[abS,l0,j.Ad,f,k,c.Ad,oO]
  |false=>rw[i] at c;rw[Af Ax];have l0:=w.B4;refine⟨_,_,?_,w.pb,.refl⟩;rw[Ae,MG];simp only[abS,l0,f,c.Ad,k,oO,Cj]
def SW.aAO(w:SW h bi b F si t av)(t':DJ)(aD:Aa):CK h 12 (Pt si 1) (.agg (B1 t' aD))=some (h.set si (.cells (Pt bi 0::B1 t' aD)))/\SW (h.set si (.cells (Pt bi 0::B1 t' aD))) bi b F si t' aD/\EH h (λi=>F i\/i=si) (h.set si (.cells (Pt bi 0::B1 t' aD))) (λi=>F i\/i=si):=by
 have hl:=(Al.1 w.sc).1;refine⟨by simp only[CK,w.sc];rfl,⟨w.pb.E4 λi hi=>?_,by rw[AD hl],w.no⟩,⟨Ax,λi _ hn=>?_,λ_ h=> .inl h⟩⟩;.exact Ap λe=>w.no (by rw[show si=i from e];exact hi)
 .exact Ap λe=>hn (.inr (show i=si from e.symm))
def aJv(w:SW h bi b F si t av)(g:Gz b (n+4*a+4) o a):uo h F si 187 [Pt si 0] (.tuple []) bi (b.empty (Ll [98,114])):=by have f:=ud [98,114] h;obtain⟨s0,w,d⟩:=w.aAO (Ll [98,114]) .slnil;obtain⟨h1,j,e,i,c⟩:=aEU w g (I4 AM) (.inr ⟨rfl,rfl⟩);refine⟨h1,j,?_,i,d.trans c⟩;rw[Ae,fK];simp only[B9,f.Ad,s0,e.Ad]
def aEZ{c n:Nat}{m:Option Nat}{ps:List PN}{A:Ar}{e x:Int}(w:PA h c n m ps A)(j:Mn A)(ok:Er A e)(hx:A.has x):
  ∃h' Ot,B2 cx 247 [Pt c 0,I x] h (I 0) h'/\PA h' c n m Ot (A.cut x)/\EH h (λi=>i∈Fw c n m ps) h' (λi=>i∈Fw c n m Ot):=by
 have d:=Rl (x:=x) w;rw[Ag hx] at d;obtain⟨h1,Y2,g,w1,f⟩:=Ā w j ok hx;refine⟨h1,Y2,?_,w1,f⟩;rw[Ae,iE];simp only[abS,Gj,d.Ad,g.Ad,Cj]
def aE0(w:PB h bi b F)(g:Gz b n o a){x:Int}(hx:b.a.has x):∃d,Bd h none (Pt bi 0)=some (Pt d 0)/\Fc h F 247 [Pt d 0,I x] (I 0) bi {b with a:=b.a.cut x}:=by
 obtain⟨d,i,c,tt,G,w,hc,rfl⟩:=w;obtain⟨h',j,r,w',x'⟩:=w.step (R:=λh'=>B2 cx 247 [Pt d 0,I x] h (I 0) h') λn m ps f=>by obtain⟨h1,Y2,r,w1,e⟩:=aEZ f g.rm.TD g.ok.ok hx;exact⟨h1,n,m,Y2,r,w1,e⟩
 exact⟨d,w.l0,h',_,r,⟨d,i,c,tt,j,w',hc,rfl⟩,x'⟩
def aJw(w:SW h bi b F si t av)(g:Gz b (n+4) o a)(ht:t.Sm)(hv:A6 t.As av):Fc h F 173 [Pt si 0] (.tuple []) bi (b.Hg t):=by
 unfold BS.Hg;cases f:b.Lm with
 |false=>rw[Ag (.inl rfl)];have l0:=w.B4;have c:=uq w;rw[f] at c;refine⟨_,_,?_,w.pb,.refl⟩;rw[Ae,Sp];simp only[abS,l0,c.Ad]
 |true=>
 rcases Bool.eq_false_or_eq_true b.fs with m|m
 rotate_left;.rw[Ag (.inr m)];have l0:=w.B4;have c:=uq w;rw[f] at c;rw[m] at l0;refine⟨_,_,?_,w.pb,.refl⟩;rw[Ae,Sp];simp only[abS,l0,c.Ad]
 .rw[Af (by simp[m])];have hi:=g.ok.op _ (Ux f);have l0:=w.B4;rw[m] at l0;have c:=uq w;rw[f] at c;obtain⟨K,H,h1,v,E,y,x⟩:=aE0 w.pb g hi.1;have w1:=w.after y x;have g1:Gz {b with a:=b.a.cut (DO b.AA 1).node} (n+4) o a:=⟨g.ok.Iw (cQ g.ok.ok hi.1 (by rw[hi.2];decide)) sL,g.rm.Iw oI,g.AA,g.AY⟩;have aOE:2<=b.AA.length:=by unfold BS.Lm at f;simp only[A7,Co] at f;exact f.1
  have OT:Ev cx 173 [Pt si 0] h λr h'=>r= .tuple []/\∃F',PB h' bi {({b with a:=b.a.cut (DO b.AA 1).node,AA:=b.AA.take 1}:BS).Cz t with mode:=20} F'/\EH h F h' F':=by
   unfold Ev;rw[Sp];simp only[abS,l0,c.Ad,H,E.Ad];refine E2 (i:=0) (λn:Nat=>[]) (λn h2=>1<=n/\n<=b.AA.length/\∃d,PB h2 bi {b with a:=b.a.cut (DO b.AA 1).node,AA:=b.AA.take n} d/\EH h1 v h2 d) (λn=>n) (λn h2=>∃d,PB h2 bi {b with a:=b.a.cut (DO b.AA 1).node,AA:=b.AA.take 1} d/\EH h1 v h2 d) b.AA.length rfl ⟨Ac,Ab _,v,by rw[BN];exact y,.refl⟩ ?_ ?_
   .rintro j h2 ⟨RO,hn,d,e,k⟩;have q:=w1.after e k;have s:=q.B4;have ln:=Yj e;have z:(b.AA.take j).length=j:=by rw[AB];omega
    simp only[z] at ln;have g2:Gz {b with a:=b.a.cut (DO b.AA 1).node,AA:=b.AA.take j} (n+4) (o+1) a:=(g1.le Ac Ac (Ab _)).IH (Ca _ _);by_cases hk:j=1;.subst hk;simp only[abS,s,ln.Ad,(AM:¬(1:Int)<((1:Nat):Int))];exact .IE 1 rfl ⟨d,e,k⟩
    .obtain⟨I,A,u,l,p⟩:=ON e g2;have J:({b with a:=b.a.cut (DO b.AA 1).node,AA:=b.AA.take j}:BS).Hj={b with a:=b.a.cut (DO b.AA 1).node,AA:=b.AA.take (j-1)}:=by unfold BS.Hj;simp only[z];rw[Af Ac,F5,Cx Ac]
     rw[J] at l;simp only[abS,s,ln.Ad,(Ac:(1:Int)<(j:Int)),u.Ad];exact .next (j-1) rfl ⟨Ac,Ac,A,l,k.trans p⟩ Ac
   .rintro j h2 ⟨d,e,k⟩;have q:=w1.after e k;have s:=q.B4;have g2:Gz {b with a:=b.a.cut (DO b.AA 1).node,AA:=b.AA.take 1} (n+4) o a:=g1.IH (Ca _ _);obtain⟨I,A,u,l,p⟩:=EW e g2 ht hv;have C:=q.after l p;have l3:=C.B4;obtain⟨D,G,B⟩:=FB l 20;simp only[abS,s,u.Ad,l3,D];exact⟨_,rfl,rfl,_,G,((x.trans k).trans p).trans B⟩
  obtain⟨r,h',hr,rfl,F',hp,hx⟩:=OT.ret;exact⟨h',F',hr,hp,hx⟩
end
def kr(p:Aj×Aa):Aa×Aa:=(.str p.1,p.2)
def kf(s:Aj):List (Aj×Aa)->Option Aa
 |[]=>none
 |(t,v)::l=>if s=t then some v else kf s l
def kp(s:Aj)(v:Aa):List (Aj×Aa)->List (Aj×Aa)
 |[]=>[(s,v)]
 |(t,u)::l=>if s=t then(s,v)::l else(t,u)::kp s v l
def Č{s t:Aj}{v:Aa}:∀{l:List (Aj×Aa)},kf t (kp s v l)=if t=s then some v else kf t l
 |[]=>rfl
 |(x,u)::l=>by
  unfold kp;by_cases h:s=x;.rw[Ag h];unfold kf;subst h;split<;>rfl
  .rw[Af h];unfold kf;rw[Č];by_cases h1:t=x;.subst h1;rw[Ag rfl,Ag rfl,Af (DC h)]
   .rw[Af h1,Af h1]
def oS{s:Aj}:∀{l:List (Aj×Aa)},RA s (l.map kr)=some (kf s l)
 |[]=>rfl
 |(x,u)::l=>by
  simp only[A9,kr,RA,kf];split;.rfl
  .exact oS
def yV{s:Aj}{v:Aa}:∀{l:List (Aj×Aa)},M9 s v (l.map kr)=some ((kp s v l).map kr)
 |[]=>rfl
 |(x,u)::l=>by
  simp only[A9,kr,M9,kp];split;.rfl
  .rw[show(List.map kr l)=l.map kr from rfl,yV];rfl
def aH{s:Aj}:∀{l:List (Aj×Aa)} {i:Nat},kf s l=none->QY s (l.map kr) i=some none
 |[],_,_=>rfl
 |(x,u)::l,i,h=>by
  unfold kf at h;by_cases e:s=x;.rw[Ag e] at h;cases h
  .rw[Af e] at h;simp only[A9,kr,QY,Af e];exact aH h
def ur{s t:Aj}{v:Aa}:∀{l:List (Aj×Aa)},kf s l=none->kf t (l++[(s,v)])=if t=s then some v else kf t l
 |[],_=>rfl
 |(x,u)::l,h=>by
  unfold kf at h;by_cases e:s=x;.rw[Ag e] at h;cases h
  .rw[Af e] at h;simp only[CD,kf];rw[ur h];by_cases a:t=x;.subst a;rw[Ag rfl,Ag rfl,Af (DC e)]
   .rw[Af a,Af a]
def KM(h:Ai)(id:Nat)(d:Aj->Option Aa):Prop:=∃l,h[id]?=some (.map (l.map kr))/\∀s,kf s l=d s
def Fr(id:Nat)(h h':Ai):Prop:=h.length<=h'.length/\∀i,i<h.length->i≠id->h'[i]?=h[i]?
def Fr.refl{id:Nat}{h:Ai}:Fr id h h:=⟨Ab _,λ_ _ _=>rfl⟩
def Fr.trans{id:Nat}{h h1 h2:Ai}(a:Fr id h h1)(b:Fr id h1 h2):Fr id h h2:=⟨Bn a.1 b.1,λi hi hn=>(b.2 i (IJ hi a.1) hn).trans (a.2 i hi hn)⟩
def Fr.set{id:Nat}{h:Ai}{o:EN}:Fr id h (h.set id o):=⟨Ax,λi _ hn=>Ap (DC hn)⟩
def Fr.Jn{id:Nat}{h u:Ai}:Fr id h (h++u):=⟨Ax,λi hi _=>An hi⟩
section
variable{h:Ai}{id:Nat}{d:Aj->Option Aa}{s:Aj}{v:Aa}
def KM.lt(w:KM h id d):id<h.length:=let⟨_,hl,_⟩:=w;(Al.1 hl).1
def KM.Jn{u:Ai}(w:KM h id d):KM (h++u) id d:=let⟨l,hl,hd⟩:=w;⟨l,by rw[An w.lt];exact hl,hd⟩
def KM.set(w:KM h id d)(s:Aj)(v:Aa):∃h1,QB h (.map (some id)) (.str s) v=some h1/\KM h1 id (λt=>if t=s then some v else d t)/\Fr id h h1:=by have hlt:=w.lt;obtain⟨l,hl,hd⟩:=w;refine⟨h.set id (.map ((kp s v l).map kr)),by simp only[QB,hl,yV,BJ],⟨kp s v l,by rw[AD hlt],λt=>?_⟩,.set⟩;rw[Č];simp only[hd]
def KM.get(w:KM h id d)(s:Aj):OB h .nilFunc false (.map (some id)) (.str s)=some ((d s).getD .nilFunc):=by obtain⟨l,hl,hd⟩:=w;simp only[OB,S8,hl,oS,BJ,hd];cases d s<;>rfl
def KM.entry(w:KM h id d)(s:Aj)(hs:d s=none)(v:Aa):∃h0 h1 n v0,DZ (.aO .nilFunc) h [.map (some id),.str s]=some (h0,.tuple [v0,I n])/\DZ .NO h0 [.map (some id),I n,v]=some (h1,.bool true)/\KM h1 id (λt=>if t=s then some v else d t)/\Fr id h h1:=by
 have hlt:=w.lt;obtain⟨l,hl,hd⟩:=w;have h0:kf s l=none:=(hd s).trans hs;refine⟨h.set id (.map (l.map kr++[(.str s,.nilFunc)])),h.set id (.map ((l++[(s,v)]).map kr)),(l.map kr).length,.nilFunc,?_,?_,⟨l++[(s,v)],by rw[AD hlt],λt=>?_⟩,.set⟩;.simp only[DZ,U8,hl,aH h0,BJ]
 .simp only[DZ,RB,AD hlt,By,Int.natCast_nonneg,BE,Bw (Ab _),Eb,Ij,Mh,B0 _ _ (Ab _),j7,BW,A9,Dc,kr]
 .rw[ur h0];simp only[hd]
def lk:List (List Aj×Aa)->Aj->Option Aa
 |[],_=>none
 |(ws,v)::l,s=>if s∈ws then some v else lk l s
def KM.eq{a:Aj->Option Aa}(w:KM h id d)(e:∀s,d s=a s):KM h id a:=let⟨l,hl,hd⟩:=w;⟨l,hl,λs=>(hd s).trans (e s)⟩
def KM.push{L:List (List Aj×Aa)}(w:KM h id (λt=>if t=s then some v else lk L t)):KM h id (lk (([s],v)::L)):=w.eq λt=>by simp only[lk,AQ]
def Ox{l:Aj}{ws:List Aj}{L:List (List Aj×Aa)}(x:Kf l ws)(w:KM h id (lk L))(fv:Aa):∃h1,B2 cx 157 [.map (some id),.str l,fv] h (.tuple []) h1/\KM h1 id (lk ((ws,fv)::L))/\Fr id h h1:=by
 have hf:=x.few;have OT:Ev cx 157 [.map (some id),.str l,fv] h λr h1=>r= .tuple []/\KM h1 id (lk ((ws,fv)::L))/\Fr id h h1:=by
  unfold Ev;rw[fA];have hv:HP ws (.sl 1 (ws.map B6)):=CO;have hl:(ws.map B6).length=ws.length:=Aw ..;simp only[B9,(uc x h).Ad,Bz.GO hv];refine E2 (i:=0) (λn:Nat=>[I (n:Int)]) (λn h1=>n<=ws.length/\KM h1 id (λs=>if s∈ws.take n then some fv else lk L s)/\Fr id h h1) (λn=>ws.length-n) (λn h1=>KM h1 id (lk ((ws,fv)::L))/\Fr id h h1) 0 rfl ⟨Bc _,w.Jn.eq λs=>Ax,.Jn⟩ ?_ ?_
  .rintro n h1 ⟨hn,a,f1⟩;by_cases hlt:n<ws.length
   .have f:(ws.map B6)[n]'(by rw[hl];exact hlt)=[.str ws[n]]:=by simp[B6]
    obtain⟨h2,c,e,f2⟩:=a.set ws[n] fv;simp only[B9,YU,(Ac:(n:Int)<(ws.length:Int)),Bz.FG hv (show n<(ws.map B6).length by rw[hl];exact hlt),f,c,CE (Ac:n<9223372036854775807)];exact .next (n+1) rfl ⟨hlt,e.eq λs=>by
     simp only[AP hlt,Aq,AQ];by_cases b:s=ws[n];.simp[b]
     .simp[b],f1.trans f2⟩ Ac
   .simp only[abS,(Ac:¬(n:Int)<(ws.length:Int))];exact .IE n rfl ⟨a.eq λs=>by rw[A8 Ac];rfl,f1⟩
  .rintro n h1 ⟨a,f1⟩;simp only[B9];exact⟨_,rfl,rfl,a,f1⟩
 obtain⟨r,h1,hr,rfl,a,f1⟩:=OT.ret;exact⟨h1,hr,a,f1⟩
def qf(k:Nat):Aa:= .func (.func 240) [] [.Cu [.func (.func k) [] []]]
def K0(k:Nat)(h:Ai):B2 cx 159 [.func (.func k) [] []] h (qf k) h:=by rw[Ae,fC];simp only[B9,qf]
def aE1{k:Nat}{x:Aa}{h':Ai}(hk:k<=99999)(r:B2 cx k [x] h (.tuple []) h'):B2 cx 240 [x,.Cu [.func (.func k) [] []]] h ff h':=by rw[Ae,hC];simp only[B9,Cc,Bs,Ag hk,r.Ad]
def Ea:List (List Aj×Aa):=[(Ga,.func (.func 158) [] []),(jL,qf 160),(C9,qf 161),(K_,qf 162),(L_,qf 163),(oH,qf 164),(jM,qf 165),(yI,.func (.func 166) [] []),(M_,qf 167),(yJ,qf 168),(N_,qf 169),(yK,qf 170),(O_,qf 171),(PJ,qf 172),([aQp],qf 173),([aQT],qf 174),([aQi],qf 175),([[97]],qf 176),([aQE],qf 177),([aQu],qf 178),([aQQ],qf 179)]
def aJx(h:Ai):∃h1,B2 cx 84 [] h (.map (some h.length)) h1/\KM h1 h.length (lk Ea.reverse)/\Fr h.length h h1:=by
 have Z:KM (h++[.map []]) h.length (lk []):=⟨[],Ax,λs=>rfl⟩;have e0:Fr h.length h (h++[.map []]):= .Jn;obtain⟨h1,J,Y,e1⟩:=Ox (MK Eg:Kf aQe Ga) Z (.func (.func 158) [] []);try dsimp only at J
 obtain⟨h2,r2,X,e2⟩:=Ox (MK Eg:Kf aQf jL) Y (qf 160);try dsimp only at r2
 obtain⟨h3,I,W,e3⟩:=Ox (MK Eg:Kf aQr C9) X (qf 161);try dsimp only at I
 obtain⟨h4,H,V,e4⟩:=Ox (MK Eg:Kf aRB K_) W (qf 162);try dsimp only at H
 obtain⟨h5,G,U,e5⟩:=Ox (MK Eg:Kf aQs L_) V (qf 163);try dsimp only at G
 obtain⟨h6,F,T,e6⟩:=Ox (MK Eg:Kf aQv oH) U (qf 164);try dsimp only at F
 obtain⟨h7,E,S,e7⟩:=Ox (MK Eg:Kf aQl jM) T (qf 165);try dsimp only at E
 obtain⟨h8,D,R,e8⟩:=Ox (MK Eg:Kf aQm yI) S (.func (.func 166) [] []);try dsimp only at D
 obtain⟨h9,C,Q,e9⟩:=Ox (MK Eg:Kf aQz M_) R (qf 167);try dsimp only at C
 obtain⟨Y1,yF,Il,B⟩:=Ox (MK Eg:Kf aRC yJ) Q (qf 168);try dsimp only at yF
 obtain⟨bX,e,MI,A⟩:=Ox (MK Eg:Kf aR0 N_) Il (qf 169);try dsimp only at e
 obtain⟨h12,c,NB,z⟩:=Ox (MK Eg:Kf aR1 yK) MI (qf 170);try dsimp only at c
 obtain⟨h13,b,NC,y⟩:=Ox (MK Eg:Kf aRi O_) NB (qf 171);try dsimp only at b
 obtain⟨h14,a,QS,x⟩:=Ox (MK Eg:Kf aRT PJ) NC (qf 172);try dsimp only at a
 obtain⟨P,h15,N,L,m,t15,TN,w⟩:=QS.entry aQp Eg (qf 173);replace TN:=TN.push;obtain⟨h16,l,U4,u⟩:=TN.set aQT (qf 174);replace U4:=U4.push;obtain⟨h17,k,Ya,t⟩:=U4.set aQi (qf 175);replace Ya:=Ya.push;obtain⟨O,h18,M,K,j,t18,Uv,r⟩:=Ya.entry [97] Eg (qf 176);replace Uv:=Uv.push;obtain⟨h19,i,jI,q⟩:=Uv.set aQE (qf 177);replace jI:=jI.push;obtain⟨h20,g,oD,p⟩:=jI.set aQu (qf 178);replace oD:=oD.push;obtain⟨n,f,tc,o⟩:=oD.set aQQ (qf 179);replace tc:=tc.push;refine⟨n,?_,tc,((((((((((((((((((((e0.trans e1).trans e2).trans e3).trans e4).trans e5).trans e6).trans e7).trans e8).trans e9).trans B).trans A).trans z).trans y).trans x).trans w).trans u).trans t).trans r).trans q).trans p).trans o⟩;rw[Ae,tW];simp only[abS,Nat.reduceLeDiff,↓reduceIte,J.Ad,r2.Ad,(K0 160 _).Ad,I.Ad,(K0 161 _).Ad,H.Ad,(K0 162 _).Ad,G.Ad,(K0 163 _).Ad,F.Ad,(K0 164 _).Ad,E.Ad,(K0 165 _).Ad,D.Ad,C.Ad,(K0 167 _).Ad,yF.Ad,(K0 168 _).Ad,e.Ad,(K0 169 _).Ad,c.Ad,(K0 170 _).Ad,b.Ad,(K0 171 _).Ad,a.Ad,(K0 172 _).Ad,m,t15,(K0 173 _).Ad,l,(K0 174 _).Ad,k,(K0 175 _).Ad,j,t18,(K0 176 _).Ad,i,(K0 177 _).Ad,g,(K0 178 _).Ad,f,(K0 179 _).Ad]
def OW:List (List Aj×Aa):=[([aQh],.func (.func 158) [] []),([aQk],.func (.func 180) [] []),([aQg],.func (.func 180) [] []),(jN,qf 181),(P_,qf 182),(C9,qf 183),(oH,qf 184),(yL,qf 185),([aQT],qf 186),([[98,114]],qf 187)]
def aJy(h:Ai):∃h1,B2 cx 85 [] h (.map (some h.length)) h1/\KM h1 h.length (lk OW.reverse)/\Fr h.length h h1:=by
 have y:KM (h++[.map []]) h.length (lk []):=⟨[],Ax,λs=>rfl⟩;have e0:Fr h.length h (h++[.map []]):= .Jn;obtain⟨h1,q,f,H⟩:=y.set aQh (.func (.func 158) [] []);replace f:=f.push;obtain⟨h2,p,e,G⟩:=f.set aQk (.func (.func 180) [] []);replace e:=e.push;obtain⟨O,o,c,F⟩:=e.set aQg (.func (.func 180) [] []);replace c:=c.push;obtain⟨N,m,x,E⟩:=Ox (MK Eg:Kf aQd jN) c (qf 181);try dsimp only at m
 obtain⟨M,l,w,D⟩:=Ox (MK Eg:Kf aQo P_) x (qf 182);try dsimp only at l
 obtain⟨L,k,u,C⟩:=Ox (MK Eg:Kf aQr C9) w (qf 183);try dsimp only at k
 obtain⟨K,j,t,B⟩:=Ox (MK Eg:Kf aQv oH) u (qf 184);try dsimp only at j
 obtain⟨J,i,r,A⟩:=Ox (MK Eg:Kf aRO yL) t (qf 185);try dsimp only at i
 obtain⟨I,n,b,z⟩:=r.set aQT (qf 186);replace b:=b.push;obtain⟨Y1,a,Il,g⟩:=b.set [98,114] (qf 187);replace Il:=Il.push;refine⟨Y1,?_,Il,(((((((((e0.trans H).trans G).trans F).trans E).trans D).trans C).trans B).trans A).trans z).trans g⟩;rw[Ae,tX];simp only[abS,Nat.reduceLeDiff,↓reduceIte,q,p,o,m.Ad,(K0 181 _).Ad,l.Ad,(K0 182 _).Ad,k.Ad,(K0 183 _).Ad,j.Ad,(K0 184 _).Ad,i.Ad,(K0 185 _).Ad,n,(K0 186 _).Ad,a,(K0 187 _).Ad]
def uv:∀{L M:List (List Aj×Aa)},lk (L++M) s=(lk L s).or (lk M s)
 |[],M=>by simp[lk]
 |(ws,v)::L,M=>by
  simp only[CD,lk];split;.rfl
  .exact uv
def yW:∀{L:List (List Aj×Aa)},(∀g∈L,s∉g.1)->lk L s=none
 |[],_=>rfl
 |(ws,v)::L,h=>by simp only[lk];rw[Af (h (ws,v) (.head _))];exact yW λg hg=>h g (.tail _ hg)
def uU:∀{L:List (List Aj×Aa)},L.Pairwise (λa b=>∀x∈a.1,x∉b.1)->lk L.reverse s=lk L s
 |[],_=>rfl
 |(ws,v)::L,h=>by
  cases h with
  |cons h1 h2=>
   rw[HH,uv,uU h2];simp only[lk];by_cases c:s∈ws;.rw[Ag c,Ag c,yW λg hg=>h1 g hg s c];rfl
   .rw[Af c,Af c];cases lk L s<;>rfl
def uw:lk Ea.reverse s=lk Ea s:=uU Eg
def aAP:lk OW.reverse s=lk OW s:=uU Eg
end
section
variable{h h':Ai}{bi si:Nat}{b b':BS}{F F':Nat->Prop}{n o a:Nat}{t:DJ}{av:Aa}
def Fi(bi:Nat)(t:DJ)(av:Aa):EN:= .cells (Pt bi 0::B1 t av)
def SW.new(w:PB h bi b F)(t:DJ)(av:Aa):SW (h++[Fi bi t av]) bi b F h.length t av:=
 ⟨w.Jn,by simp[Fi],λhf=>Di _ (w.lt hf)⟩
def SW.fr(w:SW h bi b F si t av){id:Nat}(Ik:h.length<=id)(f:Fr id h h'):SW h' bi b F si t av:=by have hl:=(Al.1 w.sc).1;exact⟨w.pb.E4 λi hi=>f.2 i (w.pb.lt hi) (by have:=w.pb.lt hi;omega),by rw[f.2 si hl Ac];exact w.sc,w.no⟩
def J3{k h2:Ai}{id:Nat}{x:EN}(Ik:(h++[x]).length<=id)(f:Fr id (h++[x]) k)(e:EH k (λi=>F i\/i=h.length) h2 (λi=>F' i\/i=h.length)):EH h F h2 F':=by
 have l1:(h++[x]).length=h.length+1:=Ax;have c:=f.1;have l3:=e.len;refine⟨Ac,λi hi hn=>?_,λi hf=>?_⟩;.rw[e.old i Ac (λh=>by rcases h with h|h;exact hn h;omega),f.2 i Ac Ac,An hi]
 .rcases e.BI i (.inl hf) with(h1|h1)|h1
  .exact .inl h1
  .exact .inr Ac
  .exact .inr Ac
def uV(h0:Ai):∃h1,B2 cx 84 [] h0 (.map (some h0.length)) h1/\Fr h0.length h0 h1/\∀s,OB h1 .nilFunc false (.map (some h0.length)) (.str s)=some ((lk Ea s).getD .nilFunc):=by obtain⟨h1,r,k,f⟩:=aJx h0;exact⟨h1,r,f,λs=>by rw[k.get,uw]⟩
def aAQ(h0:Ai):∃h1,B2 cx 85 [] h0 (.map (some h0.length)) h1/\Fr h0.length h0 h1/\∀s,OB h1 .nilFunc false (.map (some h0.length)) (.str s)=some ((lk OW s).getD .nilFunc):=by obtain⟨h1,r,k,f⟩:=aJy h0;exact⟨h1,r,f,λs=>by rw[k.get,aAP]⟩
def Y9{k:Int}(hk:t.k=k)(h:1<=k/\k<=6):t.ok:=by unfold DJ.ok;omega
def Oy{k:Nat}{x y:List Aa}:Az (.Fe true .fn) [.func (.func k) x y,.nilFunc]=some tt:=rfl
def Yo:Az (.Fe true .fn) [.nilFunc,.nilFunc]=some ff:=rfl
def NI(w:PB h bi b F)(hk:t.k=2){k:Nat}(e:lk Ea t.name=some (qf k))(V_:k<=99999)(d:∀h1,SW h1 bi b F h.length t av->uo h1 F h.length k [Pt h.length 0] (.tuple []) bi b'):Fc h F 30 [Pt bi 0,.agg (B1 t av)] ff bi b':=by have w0:=SW.new w t av;obtain⟨h1,g,f1,g1⟩:=uV (h++[Fi bi t av]);have w1:=w0.fr (Ab _) f1;obtain⟨h2,l,r2,j,i⟩:=d h1 w1;have f:=Jf w t av;rw[Ak (Y9 hk AM)] at f;have c:=g1 t.name;rw[e] at c;refine⟨h2,l,?_,j,J3 (Ab _) f1 i⟩;rw[Ae,JT,dd];simp only[Fi,B1,hk,Ao,AG,Bk] at g f c;simp only[abS,Nat.reduceLeDiff,↓reduceIte,Bj,B1,Oy,f.Ad,hk,(AM:¬(2:Int)=5),(AM:¬(2:Int)=4),(AM:¬(2:Int)=6),g.Ad,c,FD,qf,Cc,Bs,(aE1 V_ r2).Ad]
def aE2(w:PB h bi b F)(hk:t.k=2){k:Nat}{r:Bool}(e:lk Ea t.name=some (.func (.func k) [] []))(V_:k<=99999)(d:∀h1,SW h1 bi b F h.length t av->Fc h1 F k [Pt h.length 0] (.bool r) bi b'):Fc h F 30 [Pt bi 0,.agg (B1 t av)] (.bool r) bi b':=by have w0:=SW.new w t av;obtain⟨h1,g,f1,g1⟩:=uV (h++[Fi bi t av]);have w1:=w0.fr (Ab _) f1;obtain⟨h2,l,r2,j,i⟩:=(d h1 w1).K9 (si:=h.length);have f:=Jf w t av;rw[Ak (Y9 hk AM)] at f;have c:=g1 t.name;rw[e] at c;refine⟨h2,l,?_,j,J3 (Ab _) f1 i⟩;rw[Ae,JT,dd];simp only[Fi,B1,hk,Ao,AG,Bk] at g f c;simp only[abS,Nat.reduceLeDiff,↓reduceIte,Bj,B1,Oy,f.Ad,hk,(AM:¬(2:Int)=5),(AM:¬(2:Int)=4),(AM:¬(2:Int)=6),g.Ad,c,FD,Cc,Bs,V_,r2.Ad]
def aJz(w:PB h bi b F)(g:Gz b (n+4*a+4) o a)(ht:t.Sm)(hv:A6 t.As av)(hk:t.k=2)(e:lk Ea t.name=none):Fc h F 30 [Pt bi 0,.agg (B1 t av)] ff bi (b.AU.Cz t):=by have w0:=SW.new w t av;obtain⟨h1,i,f1,g1⟩:=uV (h++[Fi bi t av]);have w1:=w0.fr (Ab _) f1;have j:Gz b (n+4+4*a) o a:=g.dn Ac;obtain⟨h2,u,r2,q,m⟩:=CV w1.pb j;obtain⟨r,s,f,p,l⟩:=EW q j.AU ht hv;have d:=Jf w t av;rw[Ak (Y9 hk AM)] at d;have c:=g1 t.name;rw[e] at c;refine⟨r,s,?_,p,J3 (Ab _) f1 (m.trans l).oP⟩;rw[Ae,JT,dd];simp only[Fi,B1,hk,Ao,AG,Bk] at i d c f;simp only[abS,Nat.reduceLeDiff,↓reduceIte,Bj,B1,Yo,d.Ad,hk,(AM:¬(2:Int)=5),(AM:¬(2:Int)=4),(AM:¬(2:Int)=6),i.Ad,c,vE,r2.Ad,f.Ad]
def uW(w:PB h bi b F)(hk:t.k=3){k:Nat}(e:lk OW t.name=some (qf k))(V_:k<=99999)(d:∀h1,SW h1 bi b F h.length t av->uo h1 F h.length k [Pt h.length 0] (.tuple []) bi b'):Fc h F 30 [Pt bi 0,.agg (B1 t av)] ff bi b':=by have w0:=SW.new w t av;obtain⟨h1,g,f1,g1⟩:=aAQ (h++[Fi bi t av]);have w1:=w0.fr (Ab _) f1;obtain⟨h2,l,r2,j,i⟩:=d h1 w1;have f:=Jf w t av;rw[Ak (Y9 hk AM)] at f;have c:=g1 t.name;rw[e] at c;refine⟨h2,l,?_,j,J3 (Ab _) f1 i⟩;rw[Ae,JT,dd];simp only[Fi,B1,hk,Ao,AG,Bk] at g f c;simp only[abS,Nat.reduceLeDiff,↓reduceIte,Bj,B1,Oy,f.Ad,hk,(AM:¬(3:Int)=5),(AM:¬(3:Int)=4),(AM:¬(3:Int)=6),(AM:¬(3:Int)=2),g.Ad,c,FD,qf,Cc,Bs,(aE1 V_ r2).Ad]
def aAR(w:PB h bi b F)(hk:t.k=3){k:Nat}{r:Bool}(e:lk OW t.name=some (.func (.func k) [] []))(V_:k<=99999)(d:∀h1,SW h1 bi b F h.length t av->Fc h1 F k [Pt h.length 0] (.bool r) bi b'):Fc h F 30 [Pt bi 0,.agg (B1 t av)] (.bool r) bi b':=by have w0:=SW.new w t av;obtain⟨h1,g,f1,g1⟩:=aAQ (h++[Fi bi t av]);have w1:=w0.fr (Ab _) f1;obtain⟨h2,l,r2,j,i⟩:=(d h1 w1).K9 (si:=h.length);have f:=Jf w t av;rw[Ak (Y9 hk AM)] at f;have c:=g1 t.name;rw[e] at c;refine⟨h2,l,?_,j,J3 (Ab _) f1 i⟩;rw[Ae,JT,dd];simp only[Fi,B1,hk,Ao,AG,Bk] at g f c;simp only[abS,Nat.reduceLeDiff,↓reduceIte,Bj,B1,Oy,f.Ad,hk,(AM:¬(3:Int)=5),(AM:¬(3:Int)=4),(AM:¬(3:Int)=6),(AM:¬(3:Int)=2),g.Ad,c,FD,Cc,Bs,V_,r2.Ad]
def aJA(w:PB h bi b F)(g:Gz b n o a)(hk:t.k=3)(e:lk OW t.name=none):Fc h F 30 [Pt bi 0,.agg (B1 t av)] ff bi (b.C6 t.name):=by have w0:=SW.new w t av;obtain⟨h1,f,f1,g1⟩:=aAQ (h++[Fi bi t av]);have w1:=w0.fr (Ab _) f1;obtain⟨h2,l,r2,j,i⟩:=tw w1.pb g t.name;have d:=Jf w t av;rw[Ak (Y9 hk AM)] at d;have c:=g1 t.name;rw[e] at c;refine⟨h2,l,?_,j,J3 (Ab _) f1 i.oP⟩;rw[Ae,JT,dd];simp only[Fi,B1,hk,Ao,AG,Bk] at f d c;simp only[abS,Nat.reduceLeDiff,↓reduceIte,Bj,B1,Yo,d.Ad,hk,(AM:¬(3:Int)=5),(AM:¬(3:Int)=4),(AM:¬(3:Int)=6),(AM:¬(3:Int)=2),f.Ad,c,vE,r2.Ad]
def W_:lk Ea aQg=some (qf 172):=by simp only[Ea,lk];rfl
def NJ(w:PB h bi b F)(g:Gz b (n+1000) o a)(ht:t.Sm)(hv:A6 t.As av)(hs:t.st [aQg]):Fc h F 30 [Pt bi 0,.agg (B1 t av)] ff bi (b.Hp t):=by
 have hn:t.name=aQg:=AQ.1 hs.2;have e:b.Hp t=b.Kt t:=by unfold BS.Hp BS.Kt;rw[Ag hn]
 rw[e];exact NI w hs.1 (by rw[hn];exact W_) AM λh1 w1=>(aEV w1 g ht hv).K9
def uX(w:PB h bi b F)(g:Gz b (n+8*(4*(o+a+8)+10)+8*a+2000) o a)(ht:t.Sm)(hv:A6 t.As av)(hk:t.k=2):Fc h F 30 [Pt bi 0,.agg (B1 t av)] (.bool (b.opens t).2) bi (b.opens t).1:=by
 have ge:∀{m},m<=n+8*(4*(o+a+8)+10)+8*a+2000->Gz b m o a:=λh=>g.dn h;unfold BS.opens;by_cases c:t.name∈Ga;.rw[Ag c];exact aE2 w hk (by simp only[Ea,lk,AQ,↓reduceIte,c]) AM λh1 w1=>aEY w1 (n:=n) (ge Ac) ht hv λhx=>absurd (AQ.1 hx.2▸c:aQg∈Ga) Eg
 rw[Af c];by_cases d:t.name∈jL;.rw[Ag d];exact NI w hk (by simp only[Ea,lk,↓reduceIte,c,d]) AM λh1 w1=>(um w1 (n:=n) (ge Ac) ht hv).K9
 rw[Af d];by_cases e:t.name∈C9;.rw[Ag e];exact NI w hk (by simp only[Ea,lk,↓reduceIte,c,d,e]) AM λh1 w1=>(aI9 w1 (n:=n) (ge Ac) ht hv).K9
 rw[Af e];by_cases f:t.name∈K_;.rw[Ag f];exact NI w hk (by simp only[Ea,lk,↓reduceIte,c,d,e,f]) AM λh1 w1=>(aJa w1 (n:=n) (ge Ac) ht hv).K9
 rw[Af f];by_cases i:t.name∈L_;.rw[Ag i];exact NI w hk (by simp only[Ea,lk,↓reduceIte,c,d,e,f,i]) AM λh1 w1=>(aAH w1 (n:=n) (ge Ac) ht hv).K9
 rw[Af i];by_cases j:t.name∈oH;.rw[Ag j];exact NI w hk (by simp only[Ea,lk,↓reduceIte,c,d,e,f,i,j]) AM λh1 w1=>(aJd w1 (n:=n) (ge Ac) ht hv).K9
 rw[Af j];by_cases l:t.name∈jM;.rw[Ag l];exact NI w hk (by simp only[Ea,lk,↓reduceIte,c,d,e,f,i,j,l]) AM λh1 w1=>aEU w1 (n:=n) (ge Ac) ht hv
 rw[Af l];by_cases p:t.name∈yI;.rw[Ag p];exact aE2 w hk (by simp only[Ea,lk,↓reduceIte,c,d,e,f,i,j,l,p]) AM λh1 w1=>⟨h1,F,aJt _,w1.pb,.refl⟩
 rw[Af p];by_cases q:t.name∈M_;.rw[Ag q];exact NI w hk (by simp only[Ea,lk,↓reduceIte,c,d,e,f,i,j,l,p,q]) AM λh1 w1=>(aJj w1 (n:=n) (ge Ac) ht hv).K9
 rw[Af q];by_cases r:t.name∈yJ;.rw[Ag r];exact NI w hk (by simp only[Ea,lk,↓reduceIte,c,d,e,f,i,j,l,p,q,r]) AM λh1 w1=>(aJm w1 (n:=n) (ge Ac) ht hv).K9
 rw[Af r];by_cases Il:t.name∈N_;.rw[Ag Il];exact NI w hk (by simp only[Ea,lk,↓reduceIte,c,d,e,f,i,j,l,p,q,r,Il]) AM λh1 w1=>(aJn w1 (n:=n) (ge Ac) ht hv).K9
 rw[Af Il];by_cases MI:t.name∈yK;.rw[Ag MI];exact NI w hk (by simp only[Ea,lk,↓reduceIte,c,d,e,f,i,j,l,p,q,r,Il,MI]) AM λh1 w1=>(aJg w1 (n:=n) (ge Ac) ht hv).K9
 rw[Af MI];by_cases NB:t.name∈O_;.rw[Ag NB];exact NI w hk (by simp only[Ea,lk,↓reduceIte,c,d,e,f,i,j,l,p,q,r,Il,MI,NB]) AM λh1 w1=>(aJl w1 (n:=n) (ge Ac) ht hv).K9
 rw[Af NB];by_cases NC:t.name∈PJ;.rw[Ag NC];exact NI w hk (by simp only[Ea,lk,↓reduceIte,c,d,e,f,i,j,l,p,q,r,Il,MI,NB,NC]) AM λh1 w1=>(aEV w1 (n:=n) (ge Ac) ht hv).K9
 rw[Af NC];by_cases QS:t.name=aQp;.rw[Ag QS];exact NI w hk (by simp only[Ea,lk,AQ,↓reduceIte,c,d,e,f,i,j,l,p,q,r,Il,MI,NB,NC,A3 QS]) AM λh1 w1=>(aJw w1 (n:=n) (ge Ac) ht hv).K9
 rw[Af QS];by_cases TN:t.name=aQT;.rw[Ag TN];exact NI w hk (by simp only[Ea,lk,AQ,↓reduceIte,c,d,e,f,i,j,l,p,q,r,Il,MI,NB,NC,QS,A3 TN]) AM λh1 w1=>(aJb w1 (n:=n) (ge Ac) ht hv).K9
 rw[Af TN];by_cases U4:t.name=aQi;.rw[Ag U4];exact NI w hk (by simp only[Ea,lk,AQ,↓reduceIte,c,d,e,f,i,j,l,p,q,r,Il,MI,NB,NC,QS,TN,A3 U4]) AM λh1 w1=>(aJc w1 (n:=n) (ge Ac) ht hv).K9
 rw[Af U4];by_cases Ya:t.name=[97];.rw[Ag Ya];exact NI w hk (by simp only[Ea,lk,AQ,↓reduceIte,c,d,e,f,i,j,l,p,q,r,Il,MI,NB,NC,QS,TN,U4,A3 Ya]) AM λh1 w1=>(aJh w1 (n:=n) (ge Ac) ht hv).K9
 rw[Af Ya];by_cases Uv:t.name=aQE;.rw[Ag Uv];exact NI w hk (by simp only[Ea,lk,AQ,↓reduceIte,c,d,e,f,i,j,l,p,q,r,Il,MI,NB,NC,QS,TN,U4,Ya,A3 Uv]) AM λh1 w1=>(aJe w1 (n:=n) (ge Ac) ht hv).K9
 rw[Af Uv];by_cases jI:t.name=aQu;.rw[Ag jI];exact NI w hk (by simp only[Ea,lk,AQ,↓reduceIte,c,d,e,f,i,j,l,p,q,r,Il,MI,NB,NC,QS,TN,U4,Ya,Uv,A3 jI]) AM λh1 w1=>(aJf w1 (n:=n) (ge Ac) ht hv).K9
 rw[Af jI];by_cases oD:t.name=aQQ;.rw[Ag oD];exact NI w hk (by simp only[Ea,lk,AQ,↓reduceIte,c,d,e,f,i,j,l,p,q,r,Il,MI,NB,NC,QS,TN,U4,Ya,Uv,jI,A3 oD]) AM λh1 w1=>(aJk w1 (n:=n) (ge Ac) ht hv).K9
 rw[Af oD];exact aJz w (n:=n) (ge Ac) ht hv hk (by simp only[Ea,lk,AQ,↓reduceIte,c,d,e,f,i,j,l,p,q,r,Il,MI,NB,NC,QS,TN,U4,Ya,Uv,jI,oD])
def oT(w:PB h bi b F)(g:Gz b (n+8*(4*(o+a+8)+10)+8*a+2000) o a)(ht:t.Sm)(hv:A6 t.As av)(hk:t.k=3):Fc h F 30 [Pt bi 0,.agg (B1 t av)] (.bool (b.Ln t).2) bi (b.Ln t).1:=by
 have ge:∀{m},m<=n+8*(4*(o+a+8)+10)+8*a+2000->Gz b m o a:=λh=>g.dn h;unfold BS.Ln;by_cases s:t.name=A5;.rw[Ag s];exact aAR w hk (by rw[s];simp only[OW,lk];rfl) AM λh1 w1=>aEY w1 (n:=n) (ge Ac) ht hv λhx=>by have:=hx.1;omega
 rw[Af s];by_cases r:t.name∈PJ
 .rw[Ag r];have p:t.name=aQg\/t.name=aQk:=by simpa[PJ] using r
  rcases p with p|p
  .exact aAR w hk (by rw[p];simp only[OW,lk];rfl) AM λh1 w1=>aEX w1 (n:=n) (ge Ac)
  .exact aAR w hk (by rw[p];simp only[OW,lk];rfl) AM λh1 w1=>aEX w1 (n:=n) (ge Ac)
 rw[Af r];have c:¬t.name=aQg/\¬t.name=aQk:=by simpa[PJ] using r
 have č:¬t.name=aQh:=s;by_cases d:t.name∈jN;.rw[Ag d];exact uW w hk (by simp only[OW,lk,AQ,↓reduceIte,č,c.1,c.2,d]) AM λh1 w1=>(aEW w1 (n:=n) (ge Ac)).K9
 rw[Af d];by_cases e:t.name∈P_;.rw[Ag e];exact uW w hk (by simp only[OW,lk,AQ,↓reduceIte,č,c.1,c.2,d,e]) AM λh1 w1=>(aJs w1 (n:=n) (ge Ac)).K9
 rw[Af e];by_cases f:t.name∈C9;.rw[Ag f];exact uW w hk (by simp only[OW,lk,AQ,↓reduceIte,č,c.1,c.2,d,e,f]) AM λh1 w1=>(aJq w1 (n:=n) (ge Ac)).K9
 rw[Af f];by_cases i:t.name∈oH;.rw[Ag i];exact uW w hk (by simp only[OW,lk,AQ,↓reduceIte,č,c.1,c.2,d,e,f,i]) AM λh1 w1=>(aJp w1 (n:=n) (ge Ac)).K9
 rw[Af i];by_cases j:t.name∈yL;.rw[Ag j];exact uW w hk (by simp only[OW,lk,AQ,↓reduceIte,č,c.1,c.2,d,e,f,i,j]) AM λh1 w1=>(aJu w1 (n:=n) (ge Ac)).K9
 rw[Af j];by_cases l:t.name=aQT;.rw[Ag l];exact uW w hk (by simp only[OW,lk,AQ,↓reduceIte,č,c.1,c.2,d,e,f,i,j,A3 l]) AM λh1 w1=>(aJr w1 (n:=n) (ge Ac)).K9
 rw[Af l];by_cases q:t.name=[98,114];.rw[Ag q];exact uW w hk (by simp only[OW,lk,AQ,↓reduceIte,č,c.1,c.2,d,e,f,i,j,l,A3 q]) AM λh1 w1=>(aJv w1 (n:=n) (ge Ac))
 rw[Af q];exact aJA w (n:=n) (ge Ac) hk (by simp only[OW,lk,AQ,↓reduceIte,č,c.1,c.2,d,e,f,i,j,l,q])
def aAS(w:PB h bi b F)(g:Gz b n o a):Fc h F 88 [Pt bi 0] (.tuple []) bi b.aAx:=by
 have r:=g.rm.tm;obtain⟨l,j,c,tt,G,w,hc,rfl⟩:=w;have lt:=w.t.1.len;have l6:=w.l6;by_cases h0:b.tm=[]
 .have e:b.aAx=b:=by
   unfold BS.aAx;have:b.tm.dropLast=b.tm:=by rw[h0];rfl
   rw[this]
  refine⟨h,_,?_,⟨l,j,c,tt,G,by rw[e];exact w,by rw[e];exact hc,rfl⟩,.refl⟩;have i:Az (.len false) [tt]=some (I 0):=by rw[lt,h0];rfl
  rw[Ae,dE];simp only[B9,l6,i,Uo]
 .have hpos:=Em.2 h0;obtain⟨u,s,f⟩:=Bz.Sd (w.t.1.ne h0) (k:= .i64) (n:=b.tm.length-1) Ac;rw[<-U5] at f;obtain⟨p,q,d⟩:=z_ (.inl f) Ek h;have m:=w.sr d;refine⟨_,_,?_,⟨l,j,c,p,G,m,hc,rfl⟩,BL⟩;rw[Ae,dE];simp only[B9,l6,lt,(Ac:(0:Int)<(b.tm.length:Int)),MV hpos (Ac:b.tm.length<9223372036854775807),s,q.Ad,w.st (k:=6) (v0:=tt) rfl d.1.cells,Uo]
def aI(w:PB h bi b F)(g:Gz b (n+4*a+5) o a)(ht:t.Sm)(hk:t.k=5):Fc h F 30 [Pt bi 0,.agg (B1 t av)] ff bi (b.L9 t):=by have w0:=SW.new w t av;obtain⟨h2,f,r2,e,d⟩:=(aJo w0 g ht).K9 (si:=h.length);have c:=Jf w t av;rw[Ak (Y9 hk AM)] at c;refine⟨h2,f,?_,e,J3 (Ab _) .refl d⟩;rw[Ae,JT,dd];simp only[Fi,B1,hk] at r2 c;simp only[abS,Nat.reduceLeDiff,↓reduceIte,Bj,B1,c.Ad,hk,r2.Ad]
def SS(w:PB h bi b F)(g:Gz b (n+1) o a)(ht:t.Sm)(hk:t.k=4):Fc h F 30 [Pt bi 0,.agg (B1 t av)] ff bi (b.C1 t.data 0):=by have w0:=SW.new w t av;obtain⟨h2,f,r2,e,d⟩:=LK w0.pb g (Bn ht.data AM) 0;have c:=Jf w t av;rw[Ak (Y9 hk AM)] at c;refine⟨h2,f,?_,e,J3 (id:=h.length+1) Ax .refl d.oP⟩;rw[Ae,JT,dd];simp only[Fi,B1,hk] at r2 c;simp only[abS,Nat.reduceLeDiff,↓reduceIte,Bj,B1,c.Ad,hk,r2.Ad,(AM:¬(4:Int)=5)]
def oU(w:PB h bi b F)(hk:t.k=1):Fc h F 30 [Pt bi 0,.agg (B1 t av)] ff bi b:=by have w0:=SW.new w t av;have c:=Jf w t av;rw[Ak (Y9 hk AM)] at c;refine⟨_,F,?_,w0.pb,J3 (id:=h.length+1) (x:=Fi bi t av) Ax .refl (EH.refl.oP)⟩;rw[Ae,JT,dd];simp only[Fi,B1,hk] at c⊢;simp only[abS,Nat.reduceLeDiff,↓reduceIte,Bj,c.Ad,(AM:¬(1:Int)=5),(AM:¬(1:Int)=4),(AM:¬(1:Int)=6),(AM:¬(1:Int)=2),(AM:¬(1:Int)=3)]
def ux(w:PB h bi b F)(hk:¬t.ok):Fc h F 30 [Pt bi 0,.agg (B1 t av)] ff bi b:=by have c:=Jf w t av;rw[Ah hk] at c;refine⟨_,F,?_,w,.refl⟩;rw[Ae,JT,dd];simp only[B1] at c;simp only[abS,Nat.reduceLeDiff,↓reduceIte,Bj,B1,c.Ad]
end
section
variable{h u:Ai}{bi k:Nat}{cs:List Aa}{v:Aa}
def ey(hk:k<cs.length):cs.take k++[v]++cs.drop (k+1)=cs.set k v:=by rw[Ce,Ag hk];simp
def Yp(hl:bi<h.length):(h.set bi (.cells cs)++u)[bi]?=some (.cells cs):=by rw[An (by simpa using hl),AD hl]
def jX(hl:bi<h.length){x y:EN}:(h.set bi x++u).set bi y=h.set bi y++u:=by rw[aFx _ _ (by simpa using hl),Mh]
def X_(hl:bi<h.length):Bd (h.set bi (.cells cs)++u) none (Pt bi k)=cs[k]?:=by simp only[Bd,Yp hl,Gq]
def Yq(hl:bi<h.length)(hv:v.cells=[v])(hk:k<cs.length):CK (h.set bi (.cells cs)++u) 1 (Pt bi k) v=some (h.set bi (.cells (cs.set k v))++u):=by simp only[CK,Yp hl,hv,AS];rw[Ag ⟨trivial,Ac⟩,ey hk,jX hl]
def aJB(hl:bi<h.length)(hk:4<cs.length)(m:Int):B2 cx 72 [Pt bi 0,I m] (h.set bi (.cells cs)++u) tt (h.set bi (.cells (cs.set 4 (I m)))++u):=by have e:=Yq (h:=h) (u:=u) (bi:=bi) (k:=4) (cs:=cs) (v:= I m) hl rfl hk;rw[Ae,dB];simp only[B9,e]
def SU(l:List Int):(l.map CM).flatten=l.map (Aa.int .i64):=by
 induction l with
 |nil=>rfl
 |cons x l ih=>rw[A9,CB,ih];rfl
def aJC(l:List Int)(h:Ai)(hb:l.length<=1000000000):∃v u,B2 cx 200081 [.sl 1 (l.map CM)] h v (h++u)/\((l=[]/\v= .EI 1/\u=[])\/(l≠[]/\v= .CT h.length 0 l.length 1/\u=[.cells (l.map (Aa.int .i64))])):=by
 have hm:AJ=140737488355328:=rfl;cases l with
 |nil=>refine⟨.EI 1,[],?_,.inl ⟨rfl,rfl,rfl⟩⟩;rw[Bs,Ae,Oo];have c:Kj h 1 8 (.EI 1) (.sl 1 [])=some (h,.EI 1):=rfl;simp only[B9,Dc,show Az (.Fe false .sl) [.sl 1 [],.slnil]=some (.bool false) from rfl,show Az (.EI 1) []=some (.EI 1) from rfl,c]
 |cons x l=>
  refine⟨_,_,?_,.inr ⟨Ax,rfl,rfl⟩⟩;have c:Kj h 1 8 (.EI 1) (.sl 1 ((x::l).map CM))=some (h++[.cells ((x::l).map (Aa.int .i64))],.CT h.length 0 (x::l).length 1):=by
   have OS:((x::l).map CM).length*8<=AJ:=by rw[Aw];omega
   rw[<-SU];simp only[A9] at OS⊢;simp only[Kj,NP,beq_self_eq_true,BE];rw[Ag ⟨trivial,OS⟩];simp
  rw[Ae,Oo];simp only[B9,show Az (.Fe false .sl) [.sl 1 ((x::l).map CM),.slnil]=some (.bool false) from rfl,show Az (.EI 1) []=some (.EI 1) from rfl,c]
end
section
variable{h h':Ai}{bi:Nat}{b b':BS}{F F':Nat->Prop}{n o a:Nat}
def uy(w:PB h bi b F)(g:Gz b n o a)(m:Int):Fc h F 86 [Pt bi 0,I m] tt bi (b.GV m).1:=by
 have N:=g.rm.tm;have w0:=w;obtain⟨U,M,c,d,G,w,hc,rfl⟩:=w;have hl:=w.lt;obtain⟨cs,hcs⟩:∃cs,cs=PG U b M c d:=⟨_,rfl⟩;have hb:=w.hb;rw[<-hcs] at hb;have hcl:cs.length=20:=by rw[hcs];rfl
 have P:cs[6]?=some d:=by rw[hcs];rfl
 have e0:h=h.set bi (.cells cs)++[]:=by rw[Bs,Sc hb]
 have lt:=w.t.1.len;have s:Bd h none (Pt bi 6)=some d:=w.l6;obtain⟨l',vq⟩:∃l',l'=b.tm.dropLast:=⟨_,rfl⟩;have Ž:l'.length=b.tm.length-1:=by rw[vq];simp
 obtain⟨v,u,hv,p,J⟩:∃v u,((l'=[]/\(v= .EI 1\/v= .slnil)/\u=[])\/(l'≠[]/\v= .CT h.length 0 l'.length 1/\u=[EN.cells (l'.map (Aa.int .i64))]))/\v.cells=[v]/\
   B2 cx 100088 [Pt bi 0] h (.tuple []) (h.set bi (.cells (cs.set 6 v))++u):=by
  by_cases hne:b.tm=[]
  .have C:=w.t;rw[hne] at C;have x:Az (.len false) [d]=some (I 0):=by rw[lt,hne];rfl
   refine⟨d,[],.inl ⟨by rw[vq,hne];rfl,?_,rfl⟩,C.1.cells,?_⟩
   .rcases C with⟨q|⟨q,_⟩,O⟩
    .rcases(show Bz 1 [] d from q) with q|⟨q,_⟩
     .exact absurd q O
     .exact .inr q
    .exact .inl q
   .have es:cs.set 6 d=cs:=by obtain⟨Y1,bX⟩:=Al.1 P;rw[<-bX,Jg]
    rw[es,<-e0,Ae,Om];simp only[B9,s,x,Uo]
  .have hpos:=Em.2 hne;have A:d= .sl 1 (b.tm.map CM):=by
    rcases(show Bz 1 (b.tm.map CM) d from w.t.1.ne hne) with e|⟨_,e⟩
    .exact e
    .exact absurd (by simpa using e) hne
   have es:Az (.PU 1 false false true) [d,I ((b.tm.length-1:Nat):Int)]=some (.sl 1 (l'.map CM)):=by
    have D:En ((b.tm.length-1:Nat):Int) (b.tm.map CM).length=some (b.tm.length-1):=by unfold En;rw[Aw,Ag Ac];rfl
    rw[A,vq,U5];simp only[Az,Im,Dx,D,BJ,Yv,BE,F0,GM]
   obtain⟨v,u,K,hv⟩:=aJC l' h Ac;have p:v.cells=[v]:=by rcases hv with⟨_,rfl,_⟩|⟨_,rfl,_⟩<;>rfl
   have D:h++u=h.set bi (.cells cs)++u:=by rw[Sc hb]
   have ć:CK (h++u) 1 (Pt bi 6) v=some (h.set bi (.cells (cs.set 6 v))++u):=by rw[D];exact Yq hl p Ac
   refine⟨v,u,hv.imp (λh=>⟨h.1,.inl h.2.1,h.2.2⟩) id,p,?_⟩;rw[Ae,Om];simp only[abS,s,lt,(Ac:(0:Int)<(b.tm.length:Int)),MV hpos (Ac:b.tm.length<9223372036854775807),es,K.Ad,ć]
 have y:Bd (h.set bi (.cells (cs.set 6 v))++u) none (Pt bi 6)=some v:=by rw[X_ hl,AD Ac]
 have em:Az (.DX 1) [I m]=some (.sl 1 [[I m]]):=rfl;have aO0:AJ=140737488355328:=rfl;obtain⟨id,r,j,R,hfz⟩:∃(id:Nat) (r j:Ai),FN (h.set bi (.cells (cs.set 6 v))++u) 1 8 v (.sl 1 [[I m]])=some (h.set bi (.cells (cs.set 6 v))++r,.CT id 0 (l'.length+1) 1)/\∀ds:List Aa,KK (h.set bi (.cells ds)++r) (.CT id 0 (l'.length+1) 1)=some (h.set bi (.cells ds)++j,.sl 1 ((l'++[m]).map CM)):=by
  rcases hv with⟨h0,pE,rfl⟩|⟨h0,rfl,rfl⟩
  .refine⟨h.length,[.cells [I m]],[.Dw],?_,λds=>?_⟩
   .rw[h0,Bs];rcases pE with rfl|rfl
    .simp[FN,GX];omega
    .simp[FN,GX];omega
   .rw[h0];have hg:(h.set bi (.cells ds)++[.cells [I m]])[h.length]?=some (.cells [I m]):=by rw[Bw Ax];simp
    simp only[KK,hg,Bk,BB];rw[Ag Ax];congr 2
    rw[B0 _ _ Ax];simp
  .refine⟨h.length+1,[.Dw,.cells ((l'++[m]).map (Aa.int .i64))],[.Dw,.Dw],?_,λds=>?_⟩
   .have hg:(h.set bi (.cells (cs.set 6 (.CT h.length 0 l'.length 1)))++[.cells (l'.map (Aa.int .i64))])[h.length]?=some (.cells (l'.map CM).flatten):=by rw[Bw Ax,SU];simp
    have:=N7 (id:=h.length) (z:=1) (b:=8) (v:= .sl 1 [[I m]]) (Av:=l'.map CM) (r2:=[[I m]]) (LZ (f:=CM) (λa=>rfl) l') AM hg .mk Ax Ek;rw[Aw] at this;rw[this];congr 2
    .rw[B0 _ _ Ax];have:([m].map (Aa.int .i64))=[[I m]].flatten:=rfl;simp[SU]
    .simp
   .have hg:(h.set bi (.cells ds)++[EN.Dw,.cells ((l'++[m]).map (Aa.int .i64))])[h.length+1]?=some (.cells ((l'++[m]).map CM).flatten):=by rw[Bw Ax,SU];simp
    have:=Nt (LZ (f:=CM) (z:=1) (λa=>rfl) (l'++[m])) hg;rw[Aw,Ao,AS] at this;rw[this];congr 2
    rw[B0 _ _ Ax];simp
 have s_:=Yq (h:=h) (u:=r) (bi:=bi) (k:=6) (cs:=cs.set 6 v) (v:= .CT id 0 (l'.length+1) 1) hl rfl Ek;rw[Mh] at s_;have L:=aJB (h:=h) (u:=r) (bi:=bi) (cs:=cs.set 6 (.CT id 0 (l'.length+1) 1)) hl Ek m;have fz:=hfz ((cs.set 6 (.CT id 0 (l'.length+1) 1)).set 4 (I m));have hfa:Kk (h.set bi (.cells ((cs.set 6 (.CT id 0 (l'.length+1) 1)).set 4 (I m)))++r) 6 (Pt bi 0)=some (h.set bi (.cells ((cs.set 4 (I m)).set 6 (.sl 1 ((l'++[m]).map CM))))++j):=by
  have B:((cs.set 6 (.CT id 0 (l'.length+1) 1)).set 4 (I m))[0+6]?=some (.CT id 0 (l'.length+1) 1):=by rw[BB,Ap AM,AD Ac]
  unfold Kk;simp only[Yp hl,B,fz,Cd,jX hl];congr 3
  rw[BB,List.set_comm _ _ (AM:(4:Nat)≠6),Mh,List.set_comm _ _ (AM:(6:Nat)≠4)]
 have w1:=w0.Jn (u:=j);obtain⟨_,H,_⟩:=FB w1 m;obtain⟨_,E,_⟩:=aAC H (l:=l'++[m]) (v:= .sl 1 ((l'++[m]).map CM)) .lR;have Q:Am.put (Am.put (h++j) bi 4 (I m)) bi 6 (.sl 1 ((l'++[m]).map CM))=h.set bi (.cells ((cs.set 4 (I m)).set 6 (.sl 1 ((l'++[m]).map CM))))++j:=by
  have T:h++j=h.set bi (.cells cs)++j:=by rw[Sc hb]
  rw[T,HQ (Yp hl),jX hl,HQ (Yp hl),jX hl]
 rw[Q] at E;have S:(b.GV m).1={{b with mode:=m} with tm:=l'++[m]}:=by rw[vq];rfl
 rw[S];refine⟨_,_,?_,E,?_⟩;.rw[Ae,tY];simp only[B9,J.Ad,y,em,R,s_,L.Ad,hfa]
 .refine⟨Ax,λi hi hF=>?_,λi hi=> .inl hi⟩;have aAT:i≠bi:=λe=>hF (.inl e);rw[An (by simpa using hi),Ap (DC aAT)]
end
section
variable{h h':Ai}{bi:Nat}{b b':BS}{F:Nat->Prop}{n o a:Nat}{t:DJ}{av:Aa}
def Y_(hs:t.st Ga):¬t.st [aQg]:=λhx=>absurd (AQ.1 hx.2▸hs.2:aQg∈Ga) Eg
def aAU(w:PB h bi b F)(g:Gz b (n+4*a+1005) o a)(ht:t.Sm)(hv:A6 t.As av):Fc h F 32 [Pt bi 0,.agg (B1 t av)] (.bool (b.Dv t).2) bi (b.Dv t).1:=by
 have B4:=w.B4;unfold BS.Dv BS.M2;by_cases D:¬t.ok;.rw[Ag D];have f:=Jf w t av;rw[Ah D] at f;refine⟨_,_,?_,w,.refl⟩;rw[Ae,II];simp only[abS,↓reduceIte,f.Ad]
 rw[Af D];have f:=Jf w t av;rw[Ak (Ep.1 D)] at f;by_cases i:t.k=5;.rw[Ag i];obtain⟨h1,r,d,w1,c⟩:=aI (n:=n) (av:=av) w (g.dn Ac) ht i;refine⟨_,_,?_,w1,c⟩;rw[Ae,II];simp only[abS,↓reduceIte,f.Ad,A3 i,d.Ad]
 rw[Af i];by_cases j:t.k=4;.rw[Ag j];obtain⟨h1,r,d,w1,c⟩:=SS (n:=n) (av:=av) w (g.dn Ac) ht j;refine⟨_,_,?_,w1,c⟩;rw[Ae,II];simp only[abS,↓reduceIte,f.Ad,i,A3 j,d.Ad]
 rw[Af j];by_cases l:t.k=1;.rw[Ag l];obtain⟨h1,r,d,w1,c⟩:=oU (av:=av) w l;refine⟨_,_,?_,w1,c⟩;rw[Ae,II];simp only[abS,↓reduceIte,f.Ad,i,j,A3 l,d.Ad]
 rw[Af l];by_cases y:t.st Ga;.rw[Ag y];have m:=EX Qn t av h;rw[Ak y] at m;obtain⟨h1,r,d,w1,c⟩:=jU (n:=n) w (g.dn Ac) ht hv (λe=>absurd e (Y_ y));refine⟨_,_,?_,w1,c⟩;rw[Ae,II];simp only[abS,↓reduceIte,f.Ad,m.Ad,i,j,l,d.Ad]
 rw[Af y];have m:=EX Qn t av h;rw[Ah y] at m;by_cases x:t.en [A5];.rw[Ag x];have p:=Yk FC t av h;rw[Ak x] at p;obtain⟨h1,r,d,w1,c⟩:=jU (n:=n) w (g.dn Ac) ht hv (λe=>by have h1:=e.1;have h2:=x.1;omega);refine⟨_,_,?_,w1,c⟩;rw[Ae,II];simp only[abS,↓reduceIte,f.Ad,m.Ad,p.Ad,i,j,l,d.Ad]
 rw[Af x];have p:=Yk FC t av h;rw[Ah x] at p;by_cases C:t.st sT1;.rw[Ag C];have q:=EX ug t av h;rw[Ak C] at q;obtain⟨h1,r,d,w1,c⟩:=uy w g 9;refine⟨_,_,?_,w1,c⟩;rw[Ae,II];simp only[abS,↓reduceIte,f.Ad,m.Ad,p.Ad,q.Ad,i,j,l,d.Ad,BS.GV,BS.again]
 rw[Af C];have q:=EX ug t av h;rw[Ah C] at q;by_cases B:t.st [aRS];.rw[Ag B];have s:=EX yT t av h;rw[Ak B] at s;obtain⟨h1,r,d,w1,c⟩:=uy w g 12;refine⟨_,_,?_,w1,c⟩;rw[Ae,II];simp only[abS,↓reduceIte,f.Ad,m.Ad,p.Ad,q.Ad,s.Ad,i,j,l,d.Ad,BS.GV,BS.again]
 rw[Af B];have s:=EX yT t av h;rw[Ah B] at s;by_cases A:t.st [[116,114]];.rw[Ag A];have u:=EX ui t av h;rw[Ak A] at u;obtain⟨h1,r,d,w1,c⟩:=uy w g 13;refine⟨_,_,?_,w1,c⟩;rw[Ae,II];simp only[abS,↓reduceIte,f.Ad,m.Ad,p.Ad,q.Ad,s.Ad,u.Ad,i,j,l,d.Ad,BS.GV,BS.again]
 rw[Af A];have u:=EX ui t av h;rw[Ah A] at u;by_cases z:t.st sTd;.rw[Ag z];have v:=EX uh t av h;rw[Ak z] at v;obtain⟨h1,r,d,w1,c⟩:=uy w g 14;refine⟨_,_,?_,w1,c⟩;rw[Ae,II];simp only[abS,↓reduceIte,f.Ad,m.Ad,p.Ad,q.Ad,s.Ad,u.Ad,v.Ad,i,j,l,d.Ad,BS.GV,BS.again]
 rw[Af z];have v:=EX uh t av h;rw[Ah z] at v;by_cases Il:t.k=2;.rw[Ag Il];obtain⟨h1,r,d,w1,c⟩:=uy w g 7;refine⟨_,_,?_,w1,c⟩;rw[Ae,II];simp only[abS,↓reduceIte,f.Ad,m.Ad,p.Ad,q.Ad,s.Ad,u.Ad,v.Ad,i,j,l,A3 Il,d.Ad,BS.GV,BS.again]
 rw[Af Il];by_cases MI:t.k=3;.rw[Ag MI];refine⟨_,_,?_,w,.refl⟩;rw[Ae,II];simp only[abS,↓reduceIte,f.Ad,m.Ad,p.Ad,q.Ad,s.Ad,u.Ad,v.Ad,i,j,l,Il,A3 MI]
 rw[Af MI];by_cases NB:b.Vj;.rw[Ag NB];have oN:=Rp w g;rw[Ak NB] at oN;obtain⟨_,h1,r,d,w1,c⟩:=jQ w g (CO (ws:=[A5])) AM;have g1:Gz {b with AA:=Dd Da (Bf [A5]) b.AA} (n+4*a+1005) o a:=g.IH Cq;obtain⟨_,h2,R,r2,K,H⟩:=yN w1 g1;have g2:Gz {b with AA:=Dd Da (Bf [A5]) b.AA,AY:=Fz b.AY} (n+4*a+1005) o a:=g.sub (lt:=b.tm) Cq (Ca _ _) (Ab _);have g3:Gz {b with AA:=Dd Da (Bf [A5]) b.AA,AY:=Fz b.AY,tm:=b.tm.dropLast} (n+4*a+1005) o a:=g.sub Cq (Ca _ _) Ax;obtain⟨O,Q,M,J,G⟩:=aAS K g2;obtain⟨N,P,L,I,E⟩:=R_ J g3;refine⟨_,_,?_,I,((c.trans H).trans G).trans E⟩;rw[Ae,II];simp only[abS,↓reduceIte,f.Ad,m.Ad,p.Ad,q.Ad,s.Ad,u.Ad,v.Ad,oN.Ad,i,j,l,Il,MI,yD,d.Ad,r2.Ad,M.Ad,L.Ad]
 rw[Af NB];have oN:=Rp w g;rw[Ah NB] at oN;obtain⟨h1,r,d,w1,c⟩:=tz w;refine⟨_,_,?_,w1,c⟩;rw[Ae,II];simp only[abS,↓reduceIte,f.Ad,m.Ad,p.Ad,q.Ad,s.Ad,u.Ad,v.Ad,oN.Ad,i,j,l,Il,MI,d.Ad]
def aE3(w:PB h bi b F)(g:Gz b (n+8*(4*(o+a+8)+10)+8*a+2000) o a)(ht:t.Sm)(hv:A6 t.As av):Fc h F 30 [Pt bi 0,.agg (B1 t av)] (.bool (b.Je t).2) bi (b.Je t).1:=by
 have ge:∀{m},m<=n+8*(4*(o+a+8)+10)+8*a+2000->Gz b m o a:=λh=>g.dn h;unfold BS.Je;by_cases j:¬t.ok;.rw[Ag j];exact ux w j
 rw[Af j];by_cases r:t.k=5;.rw[Ag r];exact aI (n:=n) w (ge Ac) ht r
 rw[Af r];by_cases q:t.k=4;.rw[Ag q];exact SS (n:=n) w (ge Ac) ht q
 rw[Af q];by_cases d:t.k=6
 .rw[Ag d];obtain⟨x,l6,s⟩:=w.ltm;have lt:=s.1.len;have w0:=SW.new w t av;have ok:=Jf w t av;rw[Ak (Y9 d AM)] at ok;obtain⟨v,c,aJD⟩:=w0.pb.ltm;have i:=aJD.1.len;by_cases e:0<b.tm.length;.rw[Ag e];obtain⟨h1,u,f,w1,l⟩:=aAU (n:=n) (av:=av) w0.pb (ge Ac) ht hv;refine⟨h1,u,?_,w1,J3 (id:=h.length+1) Ax .refl l.oP⟩;rw[Ae,JT,dd];simp only[Fi,B1,d] at f ok c;simp only[abS,Nat.reduceLeDiff,↓reduceIte,Bj,B1,ok.Ad,d,(AM:¬(6:Int)=5),(AM:¬(6:Int)=4),c,i,(Ac:(0:Int)<(b.tm.length:Int)),f.Ad]
  .rw[Af e];obtain⟨h1,u,f,w1,l⟩:=tz w0.pb;refine⟨h1,u,?_,w1,J3 (id:=h.length+1) Ax .refl l.oP⟩;rw[Ae,JT,dd];simp only[Fi,B1,d] at f ok c;simp only[abS,Nat.reduceLeDiff,↓reduceIte,Bj,B1,ok.Ad,d,(AM:¬(6:Int)=5),(AM:¬(6:Int)=4),c,i,(Ac:¬(0:Int)<(b.tm.length:Int)),f.Ad]
 rw[Af d];by_cases e:t.k=2;.rw[Ag e];exact uX (n:=n) w g ht hv e
 rw[Af e];by_cases p:t.k=3;.rw[Ag p];exact oT (n:=n) w g ht hv p
 .rw[Af p];exact oU w (by have:=Ep.1 j;unfold DJ.ok at this;omega)
end
section
variable{h h':Ai}{ar n x:Int}{ps:List PN}{A:Ar}
def aE4{a n:Nat}{m:Option Nat}(w:PA h a n m ps A)(d:Mn A)(hd:A.has x/\(A.nd x).kind=1)(q:Bool):
  ∃h' Ot,B2 cx 71 [Pt a 0,I x,.bool q] h (I 0) h'/\PA h' a n m Ot (A.set x {A.nd x with CL:=q})/\EH h (λi=>i∈Fw a n m ps) h' (λi=>i∈Fw a n m Ot):=by
 have hp:=(w.pn hd.1).2.1;obtain⟨h2,e,c,j,f,g⟩:=w.wr hd.1 (k:=10) AM (v:= .bool q) rfl (p:=⟨{A.nd x with CL:=q},(pN ps x).kv,(pN ps x).av,by rw[<-hp];exact(pN ps x).ok⟩) (by simp only[PN.row];rw[hp];rfl) rfl rfl;refine⟨h2,_,?_,c,w.xW c j f g⟩;rw[Ae,tO];simp only[abS,(nO (x:=x) w d).Ad,Ag hd.1,Ag hd.2,Cj,Ck,(Ic w d hd.1).Ad,e]
def jY(nm Jy sys:Aj)(d:Int):PN:=⟨{kind:=3,Cl:=d,name:=nm,Jy:=Jy,sys:=sys},.slnil,.slnil,rfl⟩
def aE5{a n:Nat}{m:Option Nat}{nm Jy sys:Aj}(w:PA h a n m ps A)(e:Mn A)(hb:A.len+1<=1000000000)(hd:A.has x/\(A.nd x).kind=1):
  ∃h',B2 cx 73 [Pt a 0,I x,.str nm,.str Jy,.str sys] h (.tuple [I (A.len+1),I 0]) h'/\PA h' a h.length m (ps++[jY nm Jy sys x]) (A.add (jY nm Jy sys x).x)/\(∀i,i<h.length->i≠a->i≠n->h'[i]?=h[i]?)/\h'.length=h.length+1:=by
 have v8:=w.len;obtain⟨h1,c,w1,d,l1⟩:=qx w Ac (jY nm Jy sys x) rfl rfl;have r2:B2 cx 147 [Pt a 0,I x,.agg (jY nm Jy sys 0).row] h (.tuple [I (A.len+1),I 0]) h1:=by rw[PN.row] at c;rw[Ae,Vv,PN.row];simp only[abS,(nO (x:=x) w e).Ad,Ag hd.1,Ag hd.2,Cj,Ck,jY] at c⊢;simp only[B9,c.Ad]
 refine⟨h1,?_,w1,d,l1⟩;simp only[PN.row,jY] at r2;rw[Ae,tP];simp only[abS,Nat.reduceLeDiff,↓reduceIte,Bj,r2.Ad]
end
section
variable{h h':Ai}{bi:Nat}{b b':BS}{F:Nat->Prop}{n o a:Nat}{t:DJ}{av:Aa}
def uz(w:PB h bi b F)(g:Gz b n o a):∃ar,Bd h none (Pt bi 0)=some (Pt ar 0)/\Fc h F 71 [Pt ar 0,I b.Cl,tt] (I 0) bi b.Y5:=by
 obtain⟨ar,i,c,d,G,w,hc,rfl⟩:=w;obtain⟨h',j,r,w',x'⟩:=w.step (A':=b.Y5.a) (R:=λh'=>B2 cx 71 [Pt ar 0,I b.Cl,tt] h (I 0) h') λn m ps f=>by obtain⟨h1,Y2,r,w1,e⟩:=aE4 f g.rm.TD g.ok.Cl true;exact⟨h1,n,m,Y2,r,w1,e⟩
 exact⟨ar,w.l0,h',_,r,⟨ar,i,c,d,j,w',hc,rfl⟩,x'⟩
def aJE(w:PB h bi b F)(g:Gz b (n+1) o a)(nm Jy sys:Aj):∃ar,Bd h none (Pt bi 0)=some (Pt ar 0)/\Fc h F 73 [Pt ar 0,I b.Cl,.str nm,.str Jy,.str sys] (.tuple [I (b.a.len+1),I 0]) bi {b with a:=b.a.add (jY nm Jy sys b.Cl).x}:=by
 obtain⟨ar,f,c,d,G,w,hc,rfl⟩:=w;obtain⟨h',j,r,w',x'⟩:=w.step (A':=b.a.add (jY nm Jy sys b.Cl).x) (R:=λh'=>B2 cx 73 [Pt ar 0,I b.Cl,.str nm,.str Jy,.str sys] h (.tuple [I (b.a.len+1),I 0]) h') λn m ps e=>by obtain⟨h1,r,w1,i,l1⟩:=aE5 (nm:=nm) (Jy:=Jy) (sys:=sys) e g.rm.TD (by have:=g.rm.n;unfold Ar.len;omega) g.ok.Cl;exact⟨h1,_,_,_,r,w1,e.Qj rfl i l1⟩
 exact⟨ar,w.l0,h',_,r,⟨ar,f,c,d,j,w',hc,rfl⟩,x'⟩
def aAV(w:PB h bi b F)(g:Gz b n o a){e:Int}(ok:Er b.a e)(p x k:Int):∃f d,Bd h none (Pt bi 0)=some (Pt f 0)/\Fc h F 74 [Pt f 0,I p,I x,I k] (I d) bi {b with a:=b.a.IF p x k}:=by
 obtain⟨f,q,c,i,G,w,hc,rfl⟩:=w;obtain⟨h',s,⟨d,r⟩,w',x'⟩:=w.step (A':=b.a.IF p x k) (R:=λh'=>∃d,B2 cx 74 [Pt f 0,I p,I x,I k] h (I d) h') λn m ps l=>by obtain⟨d,h1,Y2,r,w1,j⟩:=Ă (p:=p) (x:=x) (b:=k) l g.rm.TD ok;exact⟨h1,n,m,Y2,⟨d,r⟩,w1,j⟩
 exact⟨f,d,w.l0,h',_,r,⟨f,q,c,i,s,w',hc,rfl⟩,x'⟩
def aE6{u:DJ->Bool}(w:PB h bi b F)(g:Gz b (n+5) o a)(ht:t.Sm)(hv:A6 t.As av)(hq:∀h,B2 cx 75 [.agg (B1 t av)] h (.bool (u t)) h):Fc h F 24 [Pt bi 0,.agg (B1 t av)] (.bool (b.Ht u t).2) bi (b.Ht u t).1:=by
 have B4:=w.B4;unfold BS.Ht;by_cases B:¬t.ok;.rw[Ag B];have c:=Jf w t av;rw[Ah B] at c;refine⟨_,_,?_,w,.refl⟩;rw[Ae,PE];simp only[abS,↓reduceIte,c.Ad]
 rw[Af B];have c:=Jf w t av;rw[Ak (Ep.1 B)] at c;by_cases A:t.He;.rw[Ag A];have d:=Ro t av h;rw[Ak A] at d;refine⟨_,_,?_,w,.refl⟩;rw[Ae,PE];simp only[abS,↓reduceIte,c.Ad,d.Ad]
 rw[Af A];have d:=Ro t av h;rw[Ah A] at d;by_cases z:t.k=4;.rw[Ag z];obtain⟨h1,M,j,w1,i⟩:=LK (s:=t.data) w (g.dn (n':=n+1) Ac) (by have:=ht.data;omega) b.Cl;refine⟨_,_,?_,w1,i⟩;rw[Ae,PE];simp only[abS,↓reduceIte,c.Ad,d.Ad,A3 z,B4,j.Ad]
 rw[Af z];by_cases f:t.k=1;rotate_left;.rw[Ag f];obtain⟨T,v,h1,M,j,w1,i⟩:=uz w g;obtain⟨h2,L,r2,r,q⟩:=uQ w1 2;refine⟨_,_,?_,r,i.trans q⟩;rw[Ae,PE];simp only[abS,↓reduceIte,c.Ad,d.Ad,z,Cj,eq_false f,AN,v,B4,j.Ad,r2.Ad,BS.again]
 rw[Af (by simp[f])];have hd:=g.ok.Cl;have hx:sC {kind:=3,Cl:=b.Cl,name:=t.name,Jy:=t.Jy,sys:=t.sys}:=by constructor<;>simp[CC,Gu,US]
 have i5:=Rg g.ok.ok hx (.inr ⟨Ax,hd⟩) rfl rfl rfl rfl (λh=>absurd h.1 (AM:¬(3:Int)=4));obtain⟨T,v,h1,M,j,w1,i⟩:=aJE w (g.dn (n':=n+1) Ac) t.name t.Jy t.sys;have g1:Gz {b with a:=b.a.add (jY t.name t.Jy t.sys b.Cl).x} n o a:=⟨g.ok.Iw i5 Xy,(g.dn (n':=n+1) Ac).rm.ID (KU (y:={kind:=3,Cl:=b.Cl,name:=t.name,Jy:=t.Jy,sys:=t.sys}) Ax Ax),g.AA,g.AY⟩;obtain⟨S,U,p,h2,L,r2,r,q⟩:=aAV w1 g1 (e:=0) i5 b.Cl (b.a.len+1) 0;have l1:=w1.B4;have Q:=r.B4;have g2:Gz (b.QU t) n o a:=(g.dn (n':=n+1) Ac).QU;have m:PB h2 bi (b.QU t) L:=r;have l:=hq h2;dsimp only;cases K:u t with
 |true=>rw[K] at l;rw[Ag rfl];obtain⟨J,H,R,V,P,O,N⟩:=uz m g2;have G:B2 cx 71 [Pt J 0,I b.Cl,tt] h2 (I 0) R:=P;obtain⟨E,D,C⟩:=FB O 2;refine⟨_,_,?_,D,((i.trans q).trans N).trans C⟩;rw[Ae,PE];simp only[B1,f] at c d l;simp only[abS,↓reduceIte,c.Ad,d.Ad,(AM:¬(1:Int)=4),f,B1,Cj,AL,v,B4,j.Ad,p,l1,r2.Ad,l.Ad,H,Q,G.Ad,E]
 |false=>rw[K] at l;rw[Af Ax];obtain⟨E,D,C⟩:=FB m 2;refine⟨_,_,?_,D,(i.trans q).trans C⟩;rw[Ae,PE];simp only[B1,f] at c d l;simp only[abS,↓reduceIte,c.Ad,d.Ad,(AM:¬(1:Int)=4),f,B1,Cj,AL,v,B4,j.Ad,p,l1,r2.Ad,l.Ad,E]
def J4{es:List (Aa×Aa)}{k:Int}{v:Aa}(e:H0 k es 0=some none):DZ .gw (h++[.map es]) [.map (some h.length),I k,v]=some (h++[.map (es++[(I k,v)])],tt):=by simp[DZ,vK,e]
def Yz(k:Nat):Aa:= .func (.func k) [] []
def J5:List (Aa×Aa):=[(I 1,Yz 24),(I 2,Yz 25),(I 3,Yz 26),(I 4,Yz 27),(I 5,Yz 28),(I 6,Yz 29),(I 7,Yz 30),(I 8,Yz 31),(I 18,Yz 32)]
def aE7(h:Ai):B2 cx 69 [] h (.map (some h.length)) (h++[.map J5]):=by have m:=J4 (h:=h) (es:=J5.take 0) (k:=1) (v:=Yz 24) rfl;have l:=J4 (h:=h) (es:=J5.take 1) (k:=2) (v:=Yz 25) rfl;have j:=J4 (h:=h) (es:=J5.take 2) (k:=3) (v:=Yz 26) rfl;have i:=J4 (h:=h) (es:=J5.take 3) (k:=4) (v:=Yz 27) rfl;have g:=J4 (h:=h) (es:=J5.take 4) (k:=5) (v:=Yz 28) rfl;have f:=J4 (h:=h) (es:=J5.take 5) (k:=6) (v:=Yz 29) rfl;have e:=J4 (h:=h) (es:=J5.take 6) (k:=7) (v:=Yz 30) rfl;have d:=J4 (h:=h) (es:=J5.take 7) (k:=8) (v:=Yz 31) rfl;have c:=J4 (h:=h) (es:=J5.take 8) (k:=18) (v:=Yz 32) rfl;simp only[J5,Yz,Ih,Gy,BR,CD] at m l j i g f e d c;rw[Ae,tM];simp only[B9,m,l,j,i,g,f,e,d,c,J5,Yz]
def oV{es:List (Aa×Aa)}{k:Int}{r:Option (Nat×Aa)}(e:H0 k es 0=some r):DZ (.zD .nilFunc true) (h++[.map es]) [.map (some h.length),I k]=some (h++[.map es],S9 .nilFunc true r):=by simp[DZ,kQ,e]
def Oz(w:PB h bi b F)(hk:t.ok){i k:Nat}{r:Bool}(e:H0 b.mode J5 0=some (some (i,Yz k)))(V_:k<=99999)(d:Fc (h++[.map J5]) F k [Pt bi 0,.agg (B1 t av)] (.bool r) bi b'):Fc h F 23 [Pt bi 0,.agg (B1 t av)] (.bool r) bi b':=by obtain⟨h2,m,r2,j,g⟩:=d;have B4:=w.B4;have c:=(w.Jn (u:=[.map J5])).B4;have f:=Jf w t av;rw[Ak hk] at f;have l:=oV (h:=h) e;refine⟨h2,m,?_,j,EH.trans ⟨Ax,λi hi _=>An hi,λ_ hf=> .inl hf⟩ g⟩;rw[Ae,XI];simp only[abS,↓reduceIte,f.Ad,B4,(aE7 h).Ad,c,Dj,l,S9,Yz,Cc,Bs,V_,r2.Ad]
def aAW(w:PB h bi b F)(hk:t.ok)(e:H0 b.mode J5 0=some none):Fc h F 23 [Pt bi 0,.agg (B1 t av)] ff bi b:=by have B4:=w.B4;have w1:=w.Jn (u:=[.map J5]);have c:=w1.B4;have d:=Jf w t av;rw[Ak hk] at d;have f:=oV (h:=h) e;refine⟨_,F,?_,w1,⟨Ax,λi hi _=>An hi,λ_ hf=> .inl hf⟩⟩;rw[Ae,XI];simp only[abS,↓reduceIte,d.Ad,B4,(aE7 h).Ad,c,Dj,f,S9]
def aE8{s:DJ->Bool}(w:PB h bi b F)(g:Gz b (n+8*(4*(o+a+8)+10)+8*a+2000) o a)(ht:t.Sm)(hv:A6 t.As av)(hq:∀h,B2 cx 75 [.agg (B1 t av)] h (.bool (s t)) h):Fc h F 23 [Pt bi 0,.agg (B1 t av)] (.bool (b.apply s t).2) bi (b.apply s t).1:=by
 have ge:∀{m},m<=n+8*(4*(o+a+8)+10)+8*a+2000->Gz b m o a:=λh=>g.dn h;have w1:=w.Jn (u:=[.map J5]);unfold BS.apply;by_cases r:¬t.ok;.rw[Ag r];have v:=Jf w t av;rw[Ah r] at v;refine⟨_,_,?_,w,.refl⟩;rw[Ae,XI];simp only[abS,↓reduceIte,v.Ad]
 rw[Af r];have hk:=Ep.1 r;by_cases q:b.mode=1;.rw[Ag q];exact Oz w hk (i:=0) (k:=24) (by rw[q];rfl) AM (aE6 (n:=n) w1 (ge Ac) ht hv hq)
 rw[Af q];by_cases p:b.mode=2;.rw[Ag p];exact Oz w hk (i:=1) (k:=25) (by rw[p];rfl) AM (aEL (n:=n) w1 (ge Ac) ht hv)
 rw[Af p];by_cases l:b.mode=3;.rw[Ag l];exact Oz w hk (i:=2) (k:=26) (by rw[l];rfl) AM (aEM (n:=n) w1 (ge Ac) ht hv (λhs=>NJ (n:=n) w1 (ge Ac) ht hv hs))
 rw[Af l];by_cases j:b.mode=4;.rw[Ag j];exact Oz w hk (i:=3) (k:=27) (by rw[j];rfl) AM (jU (n:=n) w1 (ge Ac) ht hv (λhs=>NJ (n:=n) w1 (ge Ac) ht hv hs))
 rw[Af j];by_cases f:b.mode=5;.rw[Ag f];exact Oz w hk (i:=4) (k:=28) (by rw[f];rfl) AM (aEO (n:=n) w1 (ge Ac) ht hv (λhs=>NJ (n:=n) w1 (ge Ac) ht hv hs))
 rw[Af f];by_cases e:b.mode=6;.rw[Ag e];exact Oz w hk (i:=5) (k:=29) (by rw[e];rfl) AM (aEQ (n:=n) w1 (ge Ac) ht hv (λhs=>NJ (n:=n) w1 (ge Ac) ht hv hs))
 rw[Af e];by_cases d:b.mode=7;.rw[Ag d];exact Oz w hk (i:=6) (k:=30) (by rw[d];rfl) AM (aE3 (n:=n) w1 g ht hv)
 rw[Af d];by_cases c:b.mode=8;.rw[Ag c];exact Oz w hk (i:=7) (k:=31) (by rw[c];rfl) AM (aER (n:=n) w1 (ge Ac) ht hv)
 rw[Af c];by_cases Uv:b.mode=18;.rw[Ag Uv];exact Oz w hk (i:=8) (k:=32) (by rw[Uv];rfl) AM (aAU (n:=n) w1 (ge Ac) ht hv)
 rw[Af Uv];exact aAW w hk (by simp only[J5,H0,q,p,l,j,f,e,d,c,Uv,DR])
end
section
variable{av:Aa}
def qE1:Aj:=aQI
def qE2:Aj:=aQJ
def qE3:Aj:=[72,84,77,76]
def qA:Aj:=aQK
def qB:Aj:=aQF
def Hh:List Aj:=[qE1,qE2,qE3]
def uY:List Aj:=[aQ9,aQ5,aRk,aQZ,aQ0,aRl,aQS,aRd,aQM,aQH,aQA,aQC,aRa,aQ1]
def aJ:List Aj:=[qA,qB]
def ez{k:IntKind}{s:Aj}{b z:Nat}(hb:b<=s.length):Az (.PU z true false true) [.str s,.int k (b:Int)]=some (.str (s.take b)):=by
 have a:En (b:Int) s.length=some b:=by unfold En;rw[Ag Ac];rfl
 simp[Az,Im,Dx,a]
def Iy(p w:Aj):Bool:=decide (w.length<=p.length/\EM (p.take w.length)=EM w)
def VT(p w:Aj):Bool:=decide (EM p=EM w)
def aJF{v:Aa}{l:List Aj}(hv:HP l v)(hn:l.length<9223372036854775807)(h:Ai){f:FuncId}{caps:List Aa}{p:Aj->Bool}(hk:f<=99999)(hp:∀a∈l,B2 cx f (.str a::caps) h (.bool (p a)) h):
  B2 cx 237 [v,.func (.func f) [] caps] h (I (BT p 0 l)) h:=by
 rw[Ae,gX];have hlen:(l.map B6).length=l.length:=Aw ..;simp only[B9,Bz.len hv];refine BM (λn:Nat=>[I 0,I (n:Int)]) (λn h1=>n<=l.length/\BT p 0 l=BT p n (l.drop n)/\h1=h) (λn=>l.length-n) 0 rfl ⟨Bc _,rfl,rfl⟩ ?_;rintro n h1 ⟨ò,ha,rfl⟩;rcases Bl n l.length with hlt|GS
 .have i1:(n:Int)<((l.map B6).length:Int):=by rw[hlen];omega
  have b:(l.map B6)[n]'(by rw[hlen];exact hlt)=B6 l[n]:=Ax;rw[Ay hlt,BT] at ha;simp only[B9,YU,↓reduceIte,Cc,hk,i1,Bz.FG hv (show n<(l.map B6).length by rw[hlen];exact hlt),b,B6,(hp _ (Bb hlt)).Ad];rw[C8];refine⟨λhe=>?_,λhe=>?_⟩;.rw[ha,Ag he]
  .rw[Af (by simp[he])] at ha;simp only[B9,CE (Ac:n<9223372036854775807)];exact Br.next (n+1) rfl ⟨hlt,ha,rfl⟩ Ac
 .have i1:¬(n:Int)<((l.map B6).length:Int):=by rw[hlen];omega
  rw[AV GS,BT] at ha;simp only[B9,i1,AN,AR,AI,ha]
def Z_{U:Type}{p:U->Bool}{l:List U}:decide (0<=BT p 0 l)=l.any p:=by
 have:l.any p=(l.find? p).isSome:=by rw[Lb,aLx,M6]
 rw[this];rcases Gr (p:=p) (l:=l) (k:=0) with⟨h1,h2⟩|⟨n,a,h1,h2,b⟩
 .rw[h1,h2];simp
 .rw[h1,b];simp
def aJG{v:Aa}{l:List Aj}(hv:HP l v)(hn:l.length<9223372036854775807)(h:Ai){f:FuncId}{caps:List Aa}{p:Aj->Bool}(hk:f<=99999)(hp:∀a∈l,B2 cx f (.str a::caps) h (.bool (p a)) h):
  B2 cx 154 [v,.func (.func f) [] caps] h (.bool (l.any p)) h:=by
 rw[Ae,eZ];simp only[B9,(aJF hv hn h hk hp).Ad,Z_]
def aE9(t:DJ)(ht:t.Jy.length<=AJ)(w:Aj)(hw:w.length<=AJ)(h:Ai):B2 cx 153 [.str w,.Cu (B1 t av)] h (.bool (Iy t.Jy w)) h:=by
 have hc:(t.Jy.take w.length).length<=AJ:=by rw[AB];omega
 rw[Ae,eY,B1];simp only[B9];refine⟨λh=>?_,λh=>?_⟩
 .have h:w.length<=t.Jy.length:=by omega
  simp only[B9,ez h,(f189 _ _ hc hw).Cb rfl rfl,Iy,h]
 .have h:¬w.length<=t.Jy.length:=by omega
  simp[h,Iy]
def Yr(t:DJ):Bool:=
 if t.k≠1 then false else if t.q=true then true else if t.hn=false then true else if t.name≠aQg then true else if t.hp=false then false
 else Hh.any (VT t.Jy)||uY.any (Iy t.Jy)||(!t.hs&&aJ.any (Iy t.Jy))
def f75(t:DJ)(ht:t.Jy.length<=AJ)(h:Ai):B2 cx 75 [.agg (B1 t av)] h (.bool (Yr t)) h:=by
 have c:=Ez (ws:=uY) (args:=uY.map Aa.str) rfl AM;have g:=Ez (ws:=Hh) (args:=Hh.map Aa.str) rfl AM;generalize y:(Aa.sl 1 (uY.map B6))=F at c;generalize v:(Aa.sl 1 (Hh.map B6))=z2 at g;simp only[uY,Hh,qE1,qE2,qE3,A9,Dc] at c g;try dsimp only at c g
 rw[<-y] at c;rw[<-v] at g;have w1:∀w∈uY,w.length<=AJ:=Eg;have B:∀w∈aJ,w.length<=AJ:=Eg;have D:∀w∈Hh,w.length<=AJ:=Eg;have hv:HP Hh (.sl 1 (Hh.map B6)):= .mk;have hlen:(Hh.map B6).length=3:=rfl;have nR:Hh.length=3:=rfl;have C:=λw hw=>aE9 (av:=av) t ht w hw h;have i:=λk=>(aJG (l:=uY) .mk AM h (f:=153) (caps:=[.Cu (B1 t av)]) (p:=Iy t.Jy) AM (λa ha=>aE9 (av:=av) t ht a (w1 a ha) h)).Ad (k:=k) (Q:=λx vs h1=>x= .ret/\vs=[.bool (Yr t)]/\h1=h);have u:=λk=>(C qA (B _ (by simp[aJ]))).Ad (k:=k) (Q:=λx vs h1=>x= .ret/\vs=[.bool (Yr t)]/\h1=h);have s:=λk=>(C qB (B _ (by simp[aJ]))).Ad (k:=k) (Q:=λx vs h1=>x= .ret/\vs=[.bool (Yr t)]/\h1=h);have A:aJ.any (Iy t.Jy)=(Iy t.Jy qA||Iy t.Jy qB):=by simp[aJ]
 have hq:Yr t=Yr t:=rfl;conv at hq=>rhs;unfold Yr
 rw[A] at hq;rw[Ae,tQ,B1];rw[B1] at i u s;simp only[Pn,P6,AG,Bk,Nat.reduceAdd,↓reduceIte,LY,Zd,Ze];by_cases e:t.k=1;rotate_left;.rw[Ag e] at hq;simp only[abS,e,Cj,hq]
 rw[Af (by simp[e])] at hq;simp only[abS,e,Cj];cases r:t.q with
 |true=>rw[Ag r] at hq;simp only[B9,hq]
 |false=>
  rw[Af (by simp[r])] at hq;simp only[B9];cases o:t.hn with
  |false=>rw[Ag o] at hq;simp only[abS,hq]
  |true=>
   rw[Af (by simp[o])] at hq;simp only[abS];by_cases d:t.name=aQg;rotate_left;.rw[Ag d] at hq;simp only[abS,d,hq]
   rw[Af (by simp[d])] at hq;simp only[abS,d];cases m:t.hp with
   |false=>rw[Ag m] at hq;simp only[abS,hq]
   |true=>
    rw[Af (by simp[m])] at hq;simp only[abS,g,Bz.len hv,hlen];refine BM (λn:Nat=>[.bool false,I (n:Int)]) (λn h1=>n<=Hh.length/\Hh.any (VT t.Jy)=(Hh.drop n).any (VT t.Jy)/\h1=h) (λn=>Hh.length-n) 0 rfl ⟨Bc _,rfl,rfl⟩ ?_;rintro n h1 ⟨ò,ha,rfl⟩;rcases Bl n Hh.length with hlt|GS
    .have i1:(n:Int)<((3:Nat):Int):=by omega
     have A:(Hh.map B6)[n]'(by rw[hlen];omega)=B6 Hh[n]:=Ax;have E:decide (EM t.Jy=EM Hh[n])=VT t.Jy Hh[n]:=rfl;rw[Ay hlt,Rt] at ha;simp only[B9,YU,i1,Bz.FG hv (show n<(Hh.map B6).length by rw[hlen];omega),A,B6,(f189 _ _ ht (D _ (Bb hlt))).Cb rfl rfl,E,CE (Ac:n<9223372036854775807)];rw[C8];refine⟨λb=>?_,λb=>?_⟩;.rw[b,OY] at ha;rw[ha,OY,OY] at hq;rw[hq]
     .rw[b,I5] at ha;exact Br.next (n+1) rfl ⟨hlt,ha,rfl⟩ Ac
    .have i1:¬(n:Int)<((3:Nat):Int):=by omega
     rw[AV GS,o8] at ha;rw[ha,I5] at hq;simp only[abS,i1];cases j:t.hs with
     |true=>rw[j] at hq;rw[e,r,o,d,m,j] at i;simp only[abS,c,i];rw[hq];simp
     |false=>
      rw[j] at hq;rw[e,r,o,d,m,j] at i u s;simp only[qA,qB] at u s hq;simp only[abS,↓reduceIte,c,i,u,s,Cc,Nat.reduceLeDiff];rw[C8,C8];refine⟨λb=>?_,λb=>⟨λz=>?_,λz=>?_⟩⟩;.rw[hq,b];simp
      .rw[hq,z];simp
      .rw[hq,b,z];simp
end
def aFa{t:DJ}{av:Aa}(hv:A6 t.As av)(hl:t.As.length<=1000000):∃aD,A6 t.As aD/\∀h,B2 cx 22 [.agg (B1 t av)] h (.agg (B1 t aD)) h:=by obtain⟨u,e,hu⟩:=Bz.nj (l:=([]:List AZ)) (f:=AZ.row) (v:= .slnil) (b:=40) (.inr ⟨rfl,rfl⟩) hv (by simp;have:AJ=140737488355328:=rfl;omega);refine⟨u,hu,λh=>?_⟩;have hc:u.cells=[u]:=Bz.cells hu;rw[Ae,sU];simp only[B9,Nat.reduceLeDiff,↓reduceIte,B1,e,hc,AG,Bk,LY,Zd]
section
variable{sa:List AZ->Bool}{t:DJ}{av:Aa}{h:Ai}
def DJ.OL(sa:List AZ->Bool)(t:DJ):Bool:=decide (t.name.length<=60)&&(decide (t.Jy.length<=100)&&(decide (t.sys.length<=100)&&(decide (t.data.length<=200)&&sa t.As)))
def aJH(j:∀{v:Aa} {l:List AZ} (h:Ai),A6 l v->B2 cx 21 [v] h (.bool (sa l)) h)(hv:A6 t.As av)(h:Ai):B2 cx 7 [.agg (B1 t av)] h (.bool (t.OL sa)) h:=by
 rw[Ae,aC4];unfold DJ.OL;have b:((t.name.length:Int)<=60)=(t.name.length<=60):=propext Ac;have d:((t.Jy.length:Int)<=100)=(t.Jy.length<=100):=propext Ac;have f:((t.sys.length:Int)<=100)=(t.sys.length<=100):=propext Ac;have i:((t.data.length:Int)<=200)=(t.data.length<=200):=propext Ac;by_cases a:t.name.length<=60;rotate_left;.simp only[abS,Nat.reduceLeDiff,↓reduceIte,B1,b,a,Uo]
 by_cases c:t.Jy.length<=100;rotate_left;.simp only[abS,Nat.reduceLeDiff,↓reduceIte,B1,b,a,d,c,Uo]
 by_cases e:t.sys.length<=100;rotate_left;.simp only[abS,Nat.reduceLeDiff,↓reduceIte,B1,b,a,d,c,f,e,Uo]
 by_cases g:t.data.length<=200;rotate_left;.simp only[abS,Nat.reduceLeDiff,↓reduceIte,B1,b,a,d,c,f,e,i,g,Uo]
 .simp only[abS,Nat.reduceLeDiff,↓reduceIte,B1,b,a,d,c,f,e,i,g,Uo,(j h hv).Ad]
end
def Is(r:Ju):JE:=λx vs h=>r=(x,vs,h)
def Is.ret{C:Fx}{f:FuncId}{args:List Aa}{h h':Ai}{v:Aa}(hw:W C (BZ C f args) (Is (.ret,[v],h')) h):B2 C f args h v h':=
 hw.mono λx vs h1 e=>by unfold Is at e;cases e;exact⟨rfl,rfl,rfl⟩
def Is.of{C:Fx}{f:FuncId}{args:List Aa}{h h':Ai}{v:Aa}(hr:B2 C f args h v h'):W C (BZ C f args) (Is (.ret,[v],h')) h:=
 W.mono hr λx vs h1 ⟨c,b,a⟩=>by unfold Is;rw[c,b,a]
section
variable{C:Fx}{fn':FuncId->List Aa->IT}
def u_{rec:IT->Ai->Option Ju}(UQ:∀t h r,rec t h=some r->W C t (Is r) h)(yX:∀f args h r,rec (fn' f args) h=some r->W C (BZ C f args) (Is r) h):
  ∀(t:IT) (h:Ai) (r:Ju),IT.step fn' rec t h=some r->W C t (Is r) h:=by
 intro t;induction t with
 |ret x vs=>intro h r d;simp only[IT.step,Bx] at d;exact Î d.symm
 |fail=>intro h r d;simp[IT.step] at d
 |op o args k ih=>
  intro h r d;simp only[IT.step] at d;split at d;.rename_i v e;exact aBQ e (ih _ _ _ d)
  .cases d
 |cells n v k ih=>
  intro h r d;simp only[IT.step] at d;split at d;.rename_i hc;exact vQ hc (ih _ _ _ d)
  .cases d
 |FH c t e i u=>
  intro h r d;simp only[IT.step] at d;split at d;.exact vR (λ_=>i _ _ d) λh=>by cases h
  .exact vR (λh=>by cases h) λ_=>u _ _ d
  .cases d
 |load n p k ih=>
  intro h r d;simp only[IT.step] at d;split at d;.rename_i v e;exact iw e (ih _ _ _ d)
  .cases d
 |store n p v k ih=>
  intro h r d;simp only[IT.step] at d;split at d;.rename_i v e;exact vS e (ih _ _ d)
  .cases d
 |alloc n v k ih=>
  intro h r d;simp only[IT.step,VW] at d;by_cases hc:v.cells.length=n;.rw[Ag hc] at d;exact vT hc (ih _ _ _ d)
  .rw[Af hc] at d;cases d
 |call f args k ih=>
  intro h r d;simp only[IT.step] at d;split at d;.rename_i v h1 e;exact(Is.ret (yX _ _ _ _ e)).Ad.2 (ih _ _ _ d)
  .cases d
 |Iz g args k ih=>
  intro h r d;simp only[IT.step] at d;split at d
  .rename_i f a ht;split at d;.rename_i v h1 e;exact Mx.2 ⟨(f,a),ht,(Is.ret (yX _ _ _ _ e)).Ad.2 (ih _ _ _ d)⟩
   .cases d
  .cases d
 |Cb f args k ih=>
  intro h r d;simp only[IT.step] at d;split at d
  .rename_i Iq;split at d
   .rename_i v h1 e;split at d;.rename_i fo;have hp:Nr C f args v:=(Is.ret (yX _ _ _ _ e)).ev rfl;exact(hp.Cb Iq fo).2 (ih _ _ _ d)
    .cases d
   .cases d
  .cases d
 |loop key init body k l j=>
  intro h r d;simp only[IT.step] at d;split at d;.rename_i vs h1 e;exact Pp ((l _ _ _ e).mono λx è h2 q=>by unfold Is at q;cases q;exact .inl ⟨rfl,UQ _ _ _ d⟩)
  .rename_i x vs h1 hne e;exact Pp ((l _ _ _ e).mono λx è h2 q=>by unfold Is at q;cases q;exact .inr ⟨λhx=>hne hx,j _ _ _ _ d⟩)
  .cases d
 |OR key t k i j=>
  intro h r d;simp only[IT.step] at d;split at d;.rename_i x vs h1 e;exact jc ((i _ _ e).mono λx è h2 q=>by unfold Is at q;cases q;exact j _ _ _ _ d)
  .cases d
 |same a b k ih=>
  intro h r d;simp only[IT.step] at d;split at d;.rename_i hc;exact ix hc (ih _ _ d)
  .cases d
 |O1 k ih=>intro h r d;simp only[IT.step] at d;exact iy (ih _ _ _ d)
 |Kc m key v k ih=>
  intro h r d;simp only[IT.step] at d;split at d;.rename_i h1 e;exact iz e (ih _ _ d)
  .cases d
 |LO z ok m key k ih=>
  intro h r d;simp only[IT.step] at d;split at d;.rename_i h1 e;exact i_ e (ih _ _ _ d)
  .cases d
 |make size bytes zero len cap k ih=>
  intro h r d;simp only[IT.step] at d;split at d;.rename_i h1 v e;exact pP e (ih _ _ _ d)
  .cases d
 |KJ size bytes s x k ih=>
  intro h r d;simp only[IT.step] at d;split at d;.rename_i h1 v e;exact vU e (ih _ _ _ d)
  .cases d
 |ET s k ih=>
  intro h r d;simp only[IT.step] at d;split at d;.rename_i h1 v e;exact Wc e (ih _ _ _ d)
  .cases d
 |UD v k ih=>
  intro h r d;simp only[IT.step] at d;split at d;.rename_i h1 v e;exact Ï e (ih _ _ _ d)
  .cases d
 |O2 off p k ih=>
  intro h r d;simp only[IT.step] at d;split at d;.rename_i h1 e;exact vV e (ih _ _ d)
  .cases d
 |ID size bytes s x k ih=>
  intro h r d;simp only[IT.step] at d;split at d;.rename_i h1 v e;exact ja e (ih _ _ _ d)
  .cases d
 |F6 size bytes s x k ih=>
  intro h r d;simp only[IT.step] at d;split at d;.rename_i v e;exact Zj e (ih _ _ _ d)
  .cases d
 |mem o args k ih=>
  intro h r d;simp only[IT.step] at d;split at d;.rename_i h1 v e;exact Ð e (ih _ _ _ d)
  .cases d
 |vJ f args k ih=>
  intro h r d;simp only[IT.step] at d;split at d
  .rename_i v h1 e;split at d;.rename_i fo;obtain⟨n,x,vs,h2,B,w⟩:=yX _ _ _ _ e;unfold Is at w;cases w;obtain⟨m,x',HB,h',A,y⟩:=(ih _ _ _ d).succ;refine CP ⟨max n m,x',HB,h',?_,y⟩;have a1:=IT.HM (Hy n m) B;have a2:=IT.Jh (λt h r=>IT.HM (fn:=BZ C) (GP n m)) _ _ _ A;simp only[IT.step];simp only[Fx.run] at*;rw[a1];simp only[fo,BE];exact a2
   .cases d
  .cases d
def aAX(C:Fx)(fn':FuncId->List Aa->IT):Prop:=∀f args,fn' f args=BZ C f args\/∀n h r,IT.run fn' n (fn' f args) h=some r->W C (BZ C f args) (Is r) h
def jZ(hs:aAX C fn'):∀(n:Nat) (t:IT) (h:Ai) (r:Ju),IT.run fn' n t h=some r->W C t (Is r) h
 |0,t,h,r,a=>by simp[IT.run] at a
 |n+1,t,h,r,a=>by
  refine u_ (rec:=IT.run fn' n) (jZ hs n) ?_ t h r a;intro f args h r a;rcases hs f args with e|e
  .rw[e] at a;exact jZ hs n _ _ _ a
  .exact e n h r a
def e_(hs:aAX cx fn'){f:FuncId}{args:List Aa}{h:Ai}(n:Nat)(hr:XO (IT.run fn' n (BZ cx f args) h)=true):Ev cx f args h λr _=>r= .bool true:=by obtain⟨h',e⟩:=YY hr;exact(Is.ret (jZ hs n _ _ _ e)).ev rfl
def yY(v:Aa):IT:= .ET (.str []) λu=> .UD u λ_=> .ret .ret [v]
def aK{n:Nat}{v:Aa}{h:Ai}{r:Ju}(e:IT.run fn' n (yY v) h=some r):r=(.ret,[v],h++[.Dw]):=by
 cases n with
 |zero=>simp[IT.run] at e
 |succ n=>
  have e0:Io h (.str [])=some (h++[.cells []],.CT h.length 0 0 1):=rfl;have a:KK (h++[.cells []]) (.CT h.length 0 0 1)=some (h++[.Dw],.sl 1 []):=by simp[KK,Cp]
  simp only[IT.run,yY,IT.step,e0,a,Bx] at e;exact e.symm
end
theorem aFb{l:Aj}{ws:List Aj}(w:Kf l ws)(s:Aj)(h:Ai):B2 cx 155 [.str s,.str l] h (.bool (decide (s∈ws))) (h++[.Dw]):=by have a:=uc w h;have r2:=zj (CO (ws:=ws)) (by have:=w.few;omega) s (h++[EN.Dw]);rw[Ae,Vx];simp only[B9,a.Ad,r2.Ad]
def eqB:Aj->Aj->Bool
 |[],[]=>true
 |a::s,b::t=>Nat.beq a.toNat b.toNat&&eqB s t
 |_,_=>false
theorem yZ:∀{s t:Aj},eqB s t=true↔s=t
 |[],[]=>by simp[eqB]
 |[],b::t=>by simp[eqB]
 |a::s,[]=>by simp[eqB]
 |a::s,b::t=>by simp only[eqB,A7,yZ (s:=s) (t:=t),EJ,Nat.beq_eq];exact⟨λ⟨h1,h2⟩=>⟨UInt8.toNat_inj.1 h1,h2⟩,λ⟨h1,h2⟩=>⟨by rw[h1],h2⟩⟩
def spN(n:Nat):Bool:=(Nat.ble 9 n&&Nat.ble n 13)||Nat.beq n 32
theorem aAZ(c:UInt8):spN c.toNat=NH c:=by unfold spN NH;rw[Lb];simp only[OA,A7,Nat.ble_eq,Nat.beq_eq,Co]
def gq:Aj->Aj->List Aj
 |cur,[]=>match cur with
  |[]=>[]
  |_::_=>[cur.reverse]
 |cur,c::r=>match spN c.toNat with
  |true=>match cur with
   |[]=>gq [] r
   |_::_=>cur.reverse::gq [] r
  |false=>gq (c::cur) r
theorem j0:∀(s cur:Aj),gq cur s=wf cur.reverse s
 |[],[]=>by simp[gq,wf]
 |[],c::cur=>by simp[gq,wf]
 |c::r,cur=>by
  have h1:=aAZ c;cases hc:NH c with
  |true=>
   rw[hc] at h1;cases cur with
   |nil=>simp[gq,wf,h1,hc,j0 r []]
   |cons x cur=>simp[gq,wf,h1,hc,j0 r []]
  |false=>rw[hc] at h1;simp[gq,wf,h1,hc,j0 r (c::cur)]
def okB(l:Aj):Bool:=Nat.ble l.length 1000000&&l.all λc=>Nat.ble (c.toNat+1) 128
theorem zA{l:Aj}(h:okB l=true):Kf l (gq [] l):=by unfold okB at h;simp only[A7,Nat.ble_eq,DK] at h;exact⟨h.1,λc hc=>by have:=h.2 c hc;omega,by rw[j0];rfl⟩
def uZ(s:Aj)(l:List Aj):Bool:=l.any (eqB s)
theorem fc(s:Aj)(l:List Aj):uZ s l=decide (s∈l):=by rw[Lb];simp only[uZ,M6,yZ,Co];exact⟨λ⟨x,h1,h2⟩=>h2▸h1,λh=>⟨s,h,rfl⟩⟩
theorem aFc(r:Int)(h:Ai):B2 cx 145 [.int .i32 r] h (.bool (decide (gm r))) h:=by
 have b:∀(lo hi:Int) (h:Ai),B2 cx 231 [.int .i32 lo,.int .i32 hi] h (.func (.func 271) [] [.Cu [.int .i32 lo],.Cu [.int .i32 hi]]) h:=λlo hi h=>by rw[Ae,Ss];simp only[abS]
 have e:∀(v:Aa) (h:Ai),v.cells=[v]->B2 cx 230 [v] h (.func (.func 270) [] [.Cu [v]]) h:=λv h hv=>by rw[Ae,VK];simp only[abS,hv]
 have c:=aEK (L:=[(9,10),(12,13),(32,32)]) AM r h;have a:Az (.DX 1) [.func (.func 271) [] [.Cu [.int .i32 9],.Cu [.int .i32 10]],.func (.func 271) [] [.Cu [.int .i32 12],.Cu [.int .i32 13]],.func (.func 271) [] [.Cu [.int .i32 32],.Cu [.int .i32 32]]]=some (.sl 1 ([((9:Int),(10:Int)),(12,13),(32,32)].map Uy)):=rfl;have d:∀v:Aa,Cc (.func (.func 270) [] [v]) [.int .i32 r]=some (270,[.int .i32 r,v]):=λ_=>rfl;have r2:=e (.sl 1 ([((9:Int),(10:Int)),(12,13),(32,32)].map Uy)) h rfl;have e0:decide (gm r)=([((9:Int),(10:Int)),(12,13),(32,32)].any λp=>decide (p.1<=r/\r<=p.2)):=by
  have a:gm r↔((9<=r/\r<=10)\/(12<=r/\r<=13)\/(32<=r/\r<=32)):=by unfold gm;omega
  simp only[Rt,o8,K4,<-Bool.decide_or,C7];exact a
 rw[e0,Ae,Vu];simp only[abS,(b 9 10 h).Ad,(b 12 13 h).Ad,(b 32 32 h).Ad,a,r2.Ad,d,c.Ad]
def va(d:IT):List Aa->IT
 |[.str s,.str l]=>match okB l with
  |true=>yY (.bool (uZ s (gq [] l)))
  |false=>d
 |_=>d
def vd(d:IT):List Aa->IT
 |[.str l]=>match okB l with
  |true=>yY (.sl 1 ((gq [] l).map B6))
  |false=>d
 |_=>d
def ve(d:IT):List Aa->IT
 |[.int .i32 r]=> .ret .ret [.bool (decide (gm r))]
 |_=>d
noncomputable def aFd(f:FuncId)(args:List Aa):IT:=
 match Nat.beq f 155 with
 |true=>va (ð f args) args
 |false=>match Nat.beq f 238 with
  |true=>vd (ð f args) args
  |false=>match Nat.beq f 145 with
   |true=>ve (ð f args) args
   |false=>ð f args
theorem À:aAX cx aFd:=by
 intro f args;unfold aFd;split
 .rename_i hf;have hf:=MM hf;subst hf;unfold va;split
  .rename_i s l;split;.rename_i ho;refine .inr λn h r e=>?_;rw[aK e,fc];exact Is.of (aFb (zA ho) s h)
   .exact .inl (by rw[Rk])
  .exact .inl (by rw[Rk])
 .split
  .rename_i hf;have hf:=MM hf;subst hf;unfold vd;split
   .rename_i l;split;.rename_i ho;refine .inr λn h r e=>?_;rw[aK e];exact Is.of (uc (zA ho) h)
    .exact .inl (by rw[Rk])
   .exact .inl (by rw[Rk])
  .split
   .rename_i hf;have hf:=MM hf;subst hf;unfold ve;split
    .rename_i a;refine .inr λn h r e=>?_;cases n with
     |zero=>simp[IT.run] at e
     |succ n=>simp only[IT.run,IT.step,Bx] at e;rw[<-e];exact Is.of (aFc a h)
    .exact .inl (by rw[Rk])
   .exact .inl (by rw[Rk])
theorem u0:Ev cx 5 [] [] λr _=>r= .bool true:=e_ À 3000 C4
theorem j1:Nr cx 5 [] tt:=u0
end Go.Am
end
