/- Lemmas -/
import Derived.Test.YtkaolmlpcamojaaGreatDoorH28
set_option linter.all false
set_option maxRecDepth 100000
section
namespace Go.Am
open Go
def Á:NU aVC eHB:=Sr CA
def ZC:NU aVT dJ:=Sr CA
def dM:NU aV8 Sq:=Sr CA
def Â:NU aWo eNo:=Sr CA
def ZD:NU aVu Ow:=Sr CA
def xV:NU aVL pv:=Sr CA
def iv:NU aVo px:=Sr CA
def Ã:NU aVP sHN:=Sr CA
def dN:NU aVf Hr:=Sr CA
def KI:NU aVh [aVh]:=Sr CA
def JK:NU aVk [aVk]:=Sr CA
def UO:NU aVs [aVs]:=Sr CA
def Ss:NU aVx [aVx]:=Sr CA
def KJ:NU aVl [aVl]:=Sr CA
def rX:NU aVn [aVn]:=Sr CA
def TO:NU aVr [aVr]:=Sr CA
def H5:NU aVg [aVg]:=Sr CA
section
variable{h h':Ai}{bi:Nat}{b b':BS}{F:Nat->Prop}{n o a:Nat}{t:FF}{av:Aa}
def aO0(w:PB h bi b F)(g:Gz b (n+1000) o a)(ht:t.Sm)(hv:Bi t.Av av)(H:t.st [aVh]->Rb h F 34 [Pt bi 0,.agg (Cl t av)] ff bi (b.HT t)):Rb h F 30 [Pt bi 0,.agg (Cl t av)] (.bool (b.FT t).2) bi (b.FT t).1:=by
 have Wv:=w.Wv;unfold BS.FT;by_cases x:¬t.ok;.rw[Af x];have c:=aQ w t av;rw[Ah x] at c;refine⟨_,_,?_,w,.refl⟩;rw[Ae,NI];simp only[abS,↓reduceIte,c.Ab]
 rw[Ad x];have c:=aQ w t av;rw[Al (FE.1 x)] at c;by_cases e:t.k=1;.rw[Af e];refine⟨_,_,?_,w,.refl⟩;rw[Ae,NI];simp only[abS,↓reduceIte,c.Ab,AL e]
 rw[Ad e];by_cases v:t.ED;.rw[Af v];have d:=mS t av h;rw[Al v] at d;refine⟨_,_,?_,w,.refl⟩;rw[Ae,NI];simp only[abS,↓reduceIte,c.Ab,d.Ab,e]
 rw[Ad v];have d:=mS t av h;rw[Ah v] at d;by_cases u:t.Zy eHB;.rw[Af u];have i:=mR Á t av h;rw[Al u] at i;refine⟨_,_,?_,w,.refl⟩;rw[Ae,NI];simp only[abS,↓reduceIte,c.Ab,d.Ab,i.Ab,e]
 rw[Ad u];have i:=mR Á t av h;rw[Ah u] at i;by_cases m:t.k=4;.rw[Af m];obtain⟨h1,D,f,w1,j⟩:=UM (s:=t.data) w (g.dn (n':=n+1) Ac) (by have:=ht.data;omega) 0;refine⟨_,_,?_,w1,j⟩;rw[Ae,NI];simp only[abS,↓reduceIte,c.Ab,d.Ab,i.Ab,e,AL m,f.Ab]
 rw[Ad m];by_cases q:t.st [aVh];.rw[Af q];have l:=He KI t av h;rw[Al q] at l;obtain⟨h1,D,f,w1,j⟩:=H q;refine⟨_,_,?_,w1,j⟩;rw[Ae,NI];simp only[abS,↓reduceIte,c.Ab,d.Ab,i.Ab,l.Ab,e,m,f.Ab]
 rw[Ad q];have l:=He KI t av h;rw[Ah q] at l;by_cases r:t.st [aVk];.rw[Af r];have p:=He JK t av h;rw[Al r] at p;obtain⟨h1,D,f,w1,j⟩:=VM w (g.dn (n':=n+4) Ac) ht hv;obtain⟨C,B,z⟩:=Z_ w1 (b.LP 1);obtain⟨E,A,y⟩:=Pg B 4;refine⟨_,_,?_,A,(j.trans z).trans y⟩;rw[Ae,NI];simp only[abS,↓reduceIte,c.Ab,d.Ab,i.Ab,l.Ab,p.Ab,e,m,f.Ab,C,E]
 rw[Ad r];have p:=He JK t av h;rw[Ah r] at p;have rt:=aJ8 aVk h;obtain⟨h1,D,f,w1,j⟩:=VM (t:=Ra aVk) (av:= .slnil) w (g.dn (n':=n+4) Ac) (Q4 AP) (.inr ⟨rfl,rfl⟩);obtain⟨C,B,z⟩:=Z_ w1 (b.LP 1);obtain⟨I,J,G,A,y⟩:=aAX B 4;simp only[Ra] at rt f;refine⟨_,_,?_,A,(j.trans z).trans y⟩;rw[Ae,NI];simp only[abS,↓reduceIte,c.Ab,d.Ab,i.Ab,l.Ab,p.Ab,e,m,rt.Ab,f.Ab,C,G.Ab,BS.again]
def Ä(w:PB h bi b F)(g:Gz b (n+1004) o a)(ht:t.Sm)(hv:Bi t.Av av)(Z:t.st [aVh]->Rb h F 34 [Pt bi 0,.agg (Cl t av)] ff bi (b.HT t)):Rb h F 31 [Pt bi 0,.agg (Cl t av)] (.bool (b.DE t).2) bi (b.DE t).1:=by
 have Wv:=w.Wv;unfold BS.DE;by_cases L:¬t.ok;.rw[Af L];have e:=aQ w t av;rw[Ah L] at e;refine⟨_,_,?_,w,.refl⟩;rw[Ae,GH];simp only[abS,↓reduceIte,e.Ab]
 rw[Ad L];have e:=aQ w t av;rw[Al (FE.1 L)] at e;by_cases i:t.k=1;.rw[Af i];refine⟨_,_,?_,w,.refl⟩;rw[Ae,GH];simp only[abS,↓reduceIte,e.Ab,AL i]
 rw[Ad i];by_cases K:t.st [aVk];.rw[Af K];have f:=He JK t av h;rw[Al K] at f;refine⟨_,_,?_,w,.refl⟩;rw[Ae,GH];simp only[abS,↓reduceIte,e.Ab,f.Ab,i]
 rw[Ad K];have f:=He JK t av h;rw[Ah K] at f;by_cases J:t.Zy dJ;.rw[Af J];have j:=mR ZC t av h;rw[Al J] at j;refine⟨_,_,?_,w,.refl⟩;rw[Ae,GH];simp only[abS,↓reduceIte,e.Ab,f.Ab,j.Ab,i]
 rw[Ad J];have j:=mR ZC t av h;rw[Ah J] at j;by_cases H:t.ED;.rw[Af H];have l:=mS t av h;rw[Al H] at l;obtain⟨h1,y,d,w1,c⟩:=X_ w (g.dn (n':=n+5) Ac) ht.r;refine⟨_,_,?_,w1,c⟩;rw[Ae,GH];simp only[abS,↓reduceIte,e.Ab,f.Ab,j.Ab,l.Ab,i,d.Ab]
 rw[Ad H];have l:=mS t av h;rw[Ah H] at l;by_cases p:t.k=4;.rw[Af p];obtain⟨h1,y,d,w1,c⟩:=UM (s:=t.data) w (g.dn (n':=n+1) Ac) (by have:=ht.data;omega) 0;refine⟨_,_,?_,w1,c⟩;rw[Ae,GH];simp only[abS,↓reduceIte,e.Ab,f.Ab,j.Ab,l.Ab,i,AL p,d.Ab]
 rw[Ad p];by_cases C:t.st [aVh];.rw[Af C];have m:=He KI t av h;rw[Al C] at m;obtain⟨h1,y,d,w1,c⟩:=Z C;refine⟨_,_,?_,w1,c⟩;rw[Ae,GH];simp only[abS,↓reduceIte,e.Ab,f.Ab,j.Ab,l.Ab,m.Ab,i,p,d.Ab]
 rw[Ad C];have m:=He KI t av h;rw[Ah C] at m;by_cases G:t.st Ow;.rw[Af G];have q:=He ZD t av h;rw[Al G] at q;obtain⟨h1,y,d,w1,c⟩:=aOZ w (g.dn (n':=n+4) Ac) ht hv;refine⟨_,_,?_,w1,c⟩;rw[Ae,GH];simp only[abS,↓reduceIte,e.Ab,f.Ab,j.Ab,l.Ab,m.Ab,q.Ab,i,p,d.Ab]
 rw[Ad G];have q:=He ZD t av h;rw[Ah G] at q;by_cases E:t.st [aVs];.rw[Af E];have v:=He UO t av h;rw[Al E] at v;obtain⟨h1,y,d,w1,c⟩:=Y_ w (g.dn (n':=n+4) Ac) ht hv 2;refine⟨_,_,?_,w1,c⟩;rw[Ae,GH];simp only[abS,↓reduceIte,e.Ab,f.Ab,j.Ab,l.Ab,m.Ab,q.Ab,v.Ab,i,p,d.Ab]
 rw[Ad E];have v:=He UO t av h;rw[Ah E] at v;by_cases D:t.st pv;.rw[Af D];have z:=He xV t av h;rw[Al D] at z;obtain⟨h1,y,d,w1,c⟩:=Y_ w (g.dn (n':=n+4) Ac) ht hv 3;refine⟨_,_,?_,w1,c⟩;rw[Ae,GH];simp only[abS,↓reduceIte,e.Ab,f.Ab,j.Ab,l.Ab,m.Ab,q.Ab,v.Ab,z.Ab,i,p,d.Ab]
 rw[Ad D];have z:=He xV t av h;rw[Ah D] at z;by_cases KG:t.st [aVx];.rw[Af KG];have Xp:=He Ss t av h;rw[Al KG] at Xp;obtain⟨h1,y,d,w1,c⟩:=Y_ w (g.dn (n':=n+4) Ac) ht hv 4;refine⟨_,_,?_,w1,c⟩;rw[Ae,GH];simp only[abS,↓reduceIte,e.Ab,f.Ab,j.Ab,l.Ab,m.Ab,q.Ab,v.Ab,z.Ab,Xp.Ab,i,p,d.Ab]
 rw[Ad KG];have Xp:=He Ss t av h;rw[Ah KG] at Xp;by_cases NT:t.st [aVl];.rw[Af NT];have qz:=He KJ t av h;rw[Al NT] at qz;obtain⟨h1,y,d,w1,c⟩:=VM w (g.dn (n':=n+4) Ac) ht hv;obtain⟨M,B,A⟩:=Pg w1 5;refine⟨_,_,?_,B,c.trans A⟩;rw[Ae,GH];simp only[abS,↓reduceIte,e.Ab,f.Ab,j.Ab,l.Ab,m.Ab,q.Ab,v.Ab,z.Ab,Xp.Ab,qz.Ab,i,p,d.Ab,M]
 rw[Ad NT];have qz:=He KJ t av h;rw[Ah NT] at qz;by_cases OD:t.en [aVk];.rw[Af OD];have Å:=mQ JK t av h;rw[Al OD] at Å;obtain⟨h1,y,d,w1,c⟩:=rV w (g.dn (n':=n) Ac);obtain⟨M,B,A⟩:=Pg w1 6;refine⟨_,_,?_,B,c.trans A⟩;rw[Ae,GH];simp only[abS,↓reduceIte,e.Ab,f.Ab,j.Ab,l.Ab,m.Ab,q.Ab,v.Ab,z.Ab,Xp.Ab,qz.Ab,Å.Ab,i,p,d.Ab,M]
 rw[Ad OD];have Å:=mQ JK t av h;rw[Ah OD] at Å;by_cases NN:t.st [AM]
 .rw[Af NN];have ë:=He H5 t av h;rw[Al NN] at ë;obtain⟨h1,y,d,w1,c⟩:=VM w (g.dn (n':=n+4) Ac) ht hv;have g1:=(g.dn (n':=n+2+4) Ac).FA ht;obtain⟨h2,F2,r2,B,A⟩:=aE4 w1 g1;obtain⟨W,T,R⟩:=aAV B false;obtain⟨V,O,Q⟩:=Pg T 18;obtain⟨tv,Y,N⟩:=O.ltm;have tb:(b.FA t).tm.length<=900000000:=by have:=g1.rm.tm;omega
  obtain⟨u,X,hu⟩:=aAt N.1 Dv (put (put h2 bi 14 ff) bi 4 (I 18));have e6:=hu.1.pJ 18 (by simp only;have:AW=140737488355328:=rfl;omega);have em:AD (.Dk 1) [I 18]=some (.sl 1 [B8 18]):=rfl;have IG:TC ((b.FA t).tm++[(18:Int)]) (.sl 1 (((b.FA t).tm++[(18:Int)]).map B8)):= .tX;obtain⟨U,S,P⟩:=aJ4 O IG;refine⟨_,_,?_,S,(((c.trans A).trans R).trans Q).trans P⟩;rw[Ae,GH];simp only[abS,↓reduceIte,e.Ab,f.Ab,j.Ab,l.Ab,m.Ab,q.Ab,v.Ab,z.Ab,Xp.Ab,qz.Ab,Å.Ab,ë.Ab,i,p,d.Ab,r2.Ab,W,V,Y,X.Ab,em,e6,U]
 rw[Ad NN];have ë:=He H5 t av h;rw[Ah NN] at ë;by_cases PI:t.en [AM];.rw[Af PI];have x:=mQ H5 t av h;rw[Al PI] at x;obtain⟨h1,y,d,w1,c⟩:=aE3 w (g.dn (n':=n) Ac);refine⟨_,_,?_,w1,c⟩;rw[Ae,GH];simp only[abS,↓reduceIte,e.Ab,f.Ab,j.Ab,l.Ab,m.Ab,q.Ab,v.Ab,z.Ab,Xp.Ab,qz.Ab,Å.Ab,ë.Ab,x.Ab,i,p,d.Ab]
 rw[Ad PI];have x:=mQ H5 t av h;rw[Ah PI] at x;obtain⟨h1,y,d,w1,c⟩:=rV w (g.dn (n':=n) Ac);obtain⟨h2,F2,r2,B,A⟩:=aAX w1 6;refine⟨_,_,?_,B,c.trans A⟩;rw[Ae,GH];simp only[abS,↓reduceIte,e.Ab,f.Ab,j.Ab,l.Ab,m.Ab,q.Ab,v.Ab,z.Ab,Xp.Ab,qz.Ab,Å.Ab,ë.Ab,x.Ab,i,p,d.Ab,r2.Ab,BS.again]
def aO1(w:PB h bi b F)(g:Gz b (n+1004) o a)(ht:t.Sm)(hv:Bi t.Av av)(C:t.st [aVh]->Rb h F 34 [Pt bi 0,.agg (Cl t av)] ff bi (b.HT t)):Rb h F 32 [Pt bi 0,.agg (Cl t av)] (.bool (b.FU t).2) bi (b.FU t).1:=by
 have Wv:=w.Wv;unfold BS.FU;by_cases B:¬t.ok;.rw[Af B];have c:=aQ w t av;rw[Ah B] at c;refine⟨_,_,?_,w,.refl⟩;rw[Ae,L7];simp only[abS,↓reduceIte,c.Ab]
 rw[Ad B];have c:=aQ w t av;rw[Al (FE.1 B)] at c;by_cases i:t.k=1;.rw[Af i];refine⟨_,_,?_,w,.refl⟩;rw[Ae,L7];simp only[abS,↓reduceIte,c.Ab,AL i]
 rw[Ad i];by_cases A:t.st sHN;.rw[Af A];have f:=He Ã t av h;rw[Al A] at f;refine⟨_,_,?_,w,.refl⟩;rw[Ae,L7];simp only[abS,↓reduceIte,c.Ab,f.Ab,i]
 rw[Ad A];have f:=He Ã t av h;rw[Ah A] at f;by_cases z:t.Zy eNo;.rw[Af z];have j:=mR Â t av h;rw[Al z] at j;refine⟨_,_,?_,w,.refl⟩;rw[Ae,L7];simp only[abS,↓reduceIte,c.Ab,f.Ab,j.Ab,i]
 rw[Ad z];have j:=mR Â t av h;rw[Ah z] at j;by_cases s:t.st [aVh];.rw[Af s];have l:=He KI t av h;rw[Al s] at l;obtain⟨h1,u,e,w1,d⟩:=C s;refine⟨_,_,?_,w1,d⟩;rw[Ae,L7];simp only[abS,↓reduceIte,c.Ab,f.Ab,j.Ab,l.Ab,i,e.Ab]
 rw[Ad s];have l:=He KI t av h;rw[Ah s] at l;by_cases y:t.en [aVl];.rw[Af y];have m:=mQ KJ t av h;rw[Al y] at m;obtain⟨h1,u,e,w1,d⟩:=rV w (g.dn (n':=n) Ac);obtain⟨G,E,D⟩:=Pg w1 4;refine⟨_,_,?_,E,d.trans D⟩;rw[Ae,L7];simp only[abS,↓reduceIte,c.Ab,f.Ab,j.Ab,l.Ab,m.Ab,i,e.Ab,G]
 rw[Ad y];have m:=mQ KJ t av h;rw[Ah y] at m;by_cases x:t.ED;.rw[Af x];have p:=mS t av h;rw[Al x] at p;obtain⟨h1,u,e,w1,d⟩:=Ä w g ht hv C;refine⟨_,_,?_,w1,d⟩;rw[Ae,L7];simp only[abS,↓reduceIte,c.Ab,f.Ab,j.Ab,l.Ab,m.Ab,p.Ab,i,e.Ab]
 rw[Ad x];have p:=mS t av h;rw[Ah x] at p;by_cases r:t.k=4;.rw[Af r];obtain⟨h1,u,e,w1,d⟩:=Ä w g ht hv C;refine⟨_,_,?_,w1,d⟩;rw[Ae,L7];simp only[abS,↓reduceIte,c.Ab,f.Ab,j.Ab,l.Ab,m.Ab,p.Ab,i,AL r,e.Ab]
 rw[Ad r];by_cases v:t.st px;.rw[Af v];have q:=He iv t av h;rw[Al v] at q;obtain⟨h1,u,e,w1,d⟩:=Ä w g ht hv C;refine⟨_,_,?_,w1,d⟩;rw[Ae,L7];simp only[abS,↓reduceIte,c.Ab,f.Ab,j.Ab,l.Ab,m.Ab,p.Ab,q.Ab,i,r,e.Ab]
 rw[Ad v];have q:=He iv t av h;rw[Ah v] at q;obtain⟨h1,u,e,w1,d⟩:=rV w (g.dn (n':=n) Ac);obtain⟨h2,F2,r2,E,D⟩:=aAX w1 4;refine⟨_,_,?_,E,d.trans D⟩;rw[Ae,L7];simp only[abS,↓reduceIte,c.Ab,f.Ab,j.Ab,l.Ab,m.Ab,p.Ab,q.Ab,i,r,e.Ab,r2.Ab,BS.again]
def Æ(w:PB h bi b F)(ba:BA b)(rm:BM b (n+4))(ht:t.Sm)(hv:Bi t.Av av):Rb h F 65 [Pt bi 0,.agg (Cl t av)] (I (b.LP 1)) bi (b.FA t):=by obtain⟨d,e,c,tt,G,w,hc,rfl⟩:=w;obtain⟨h',o',G',r,w',x⟩:=n_ (m:=n) w ba rm KH hv ht.Av ht.name;exact⟨h',_,r,⟨d,o',c,tt,G',w',by unfold BS.FA;rw[D3];exact hc,rfl⟩,x⟩
def xW(w:PB h bi b F)(ba:BA b)(rm:BM b (n+4))(ht:t.Sm)(hv:Bi t.Av av)(s:Int):Rb h F 71 [Pt bi 0,.agg (Cl t av),I s] (.tuple []) bi (b.Fe t.name t.Av s):=by obtain⟨d,e,c,tt,G,w,hc,rfl⟩:=w;obtain⟨h',o',G',r,w',x⟩:=aEC (m:=n) w ba rm KH hv ht.Av ht.name s;exact⟨h',_,r,⟨d,o',c,tt,G',w',by show B1 (b.Ej t.name t.Av 1).A6 c;rw[D3];exact hc,rfl⟩,x⟩
def aFb(w:PB h bi b F)(rm:BM b n):Rb h F 82 [Pt bi 2] (.agg b.gF.row) bi b.Jt:=by obtain⟨d,f,c,tt,G,w,hc,rfl⟩:=w;obtain⟨h',o',r,w',x⟩:=aAv w rm;exact⟨h',_,r,⟨d,o',c,tt,G,w',by have e:b.Jt.A6=b.A6:=(by unfold BS.Jt;split<;>rfl);rw[e];exact hc,rfl⟩,x⟩
def aAY(w:PB h bi b F)(rm:BM b n):Rb h F 80 [Pt bi 3] (.tuple []) bi {b with A6:=b.A6++[Cb.zero]}:=by obtain⟨e,d,c,tt,G,w,hc,rfl⟩:=w;have Rx:=rm.A6;obtain⟨fs,GK,Ud⟩:=hc;obtain⟨u,r2,hu⟩:=f63 (h:=h) (id:=bi) (o:=3) (l:=fs) ⟨c,w.sQ,Ud⟩ (by rw[<-GK,Ao] at Rx;omega);exact⟨_,_,r2,⟨e,d,u,tt,G,w.KE (u:=u) (l:=b.A6++[Cb.zero]),⟨_,by rw[Bu,GK];rfl,hu⟩,rfl⟩,Bf⟩
def py(w:PB h bi b F)(rm:BM b n)(x:Int):∃r,Rb h F 244 [Pt bi 2,I x] r bi {b with AQ:=CX x b.AQ}:=by obtain⟨d,e,c,tt,G,w,hc,rfl⟩:=w;have ho:=rm.AQ;obtain⟨u,r2,hu⟩:=aAd w.sO Ac x;exact⟨_,_,_,r2,⟨d,u,c,tt,G,w.HZ hu,hc,rfl⟩,Bf⟩
def UP(ba:BA b)(rm:BM b (n+6))(ht:t.Sm)(hs:t.st Hr):BA (b.DE t).1/\BM (b.DE t).1 n:=by
 have f:=hs.1;have g:BM (b.FA t) (n+2):=Ih (rm.le Ac) ht.Av ht.name;have b4:BA (b.FA t):=ĭ ba;have pa:∀{c:BS} {m:Nat},BA c->BM c m->BA c.Jt/\BM c.Jt m:=λ{c m} h r=>by
  unfold BS.Jt;split;.exact⟨h,r⟩
  .exact⟨⟨h.ok,h.CG⟩,r.Sj (Dq _ _)⟩
 have en:∀ws,¬t.en ws:=λws h=>by have:=h.1;omega
 have q:∀ws,¬t.Zy ws:=λws h=>by have:=h.1;omega
 have hd:¬t.st [aVk]:=λh=>by have h1:=h.2;have h2:=hs.2;rw[BP.1 h1] at h2;revert h2;decide
 have hx:¬t.st [aVh]:=λh=>by have h1:=h.2;have h2:=hs.2;rw[BP.1 h1] at h2;revert h2;decide
 have p:¬t.st [aVl]:=λh=>by have h1:=h.2;have h2:=hs.2;rw[BP.1 h1] at h2;revert h2;decide
 unfold BS.DE;rw[Ad (show¬¬t.ok by unfold FF.ok;omega),Ad Ac,Ad hd,Ad (q _),Ad (show¬t.ED by unfold FF.ED;omega),Ad Ac,Ad hx];by_cases l:t.st Ow;.rw[Af l];exact⟨(pa b4 g).1,(pa b4 g).2.le Ac⟩
 rw[Ad l];have i:BM (b.FA t) n:=g.le Ac;by_cases k:t.st [aVs];.rw[Af k];exact⟨⟨b4.ok,b4.CG⟩,i.eq rfl rfl rfl rfl⟩
 rw[Ad k];by_cases j:t.st pv;.rw[Af j];exact⟨⟨b4.ok,b4.CG⟩,i.eq rfl rfl rfl rfl⟩
 rw[Ad j];by_cases KG:t.st [aVx];.rw[Af KG];exact⟨⟨b4.ok,b4.CG⟩,i.eq rfl rfl rfl rfl⟩
 rw[Ad KG,Ad p,Ad (en _)];have NN:t.st [AM]:=⟨f,by
  have key:∀w∈Hr,w∈Ow\/w∈[aVs]\/w∈pv\/w∈[aVx]\/w∈[AM]:=AP;rcases key _ hs.2 with h|h|h|h|h
  .exact absurd ⟨f,h⟩ l
  .exact absurd ⟨f,h⟩ k
  .exact absurd ⟨f,h⟩ j
  .exact absurd ⟨f,h⟩ KG
  .exact h⟩
 rw[Af NN];refine⟨⟨b4.ok,b4.CG⟩,?_⟩;have d:BM {b.FA t with A6:=(b.FA t).A6++[Cb.zero]} (n+1):=g.qP (e:=Cb.zero) AH (λe he=>by
  rcases Ay.1 he with he|he
  .exact .inl he
  .exact .inr (by simpa using he)) ⟨AP,AP,λa ha=>by cases ha⟩
 exact⟨(d.le (m':=n) Ac).n,(d.le (m':=n) Ac).at_,(d.le (m':=n) Ac).data,(d.le (m':=n) Ac).AQ,(d.le (m':=n) Ac).A6,by have:=d.tm;simp only[Au,A9] at this⊢;omega,d.DB,d.Wg⟩
def aKb(w:PB h bi b F)(ba:BA b)(rm:BM b (n+6))(ht:t.Sm)(hv:Bi t.Av av)(hs:t.st Hr):Rb h F 31 [Pt bi 0,.agg (Cl t av)] (.bool (b.DE t).2) bi (b.DE t).1:=by
 have hk:=hs.1;have hc:av.cells=[av]:=AU.cells hv;have l:=aQ w t av;rw[Al (show t.ok by unfold FF.ok;omega)] at l;have hd:¬t.st [aVk]:=λh=>by have h1:=h.2;have h2:=hs.2;rw[BP.1 h1] at h2;revert h2;decide
 have hx:¬t.st [aVh]:=λh=>by have h1:=h.2;have h2:=hs.2;rw[BP.1 h1] at h2;revert h2;decide
 have s:¬t.st [aVl]:=λh=>by have h1:=h.2;have h2:=hs.2;rw[BP.1 h1] at h2;revert h2;decide
 have en:∀ws,¬t.en ws:=λws h=>by have:=h.1;omega
 have D:∀ws,¬t.Zy ws:=λws h=>by have:=h.1;omega
 have k:=He JK t av h;have j:=mR ZC t av h;have i:=mS t av h;have g:=He KI t av h;have e:=He ZD t av h;have f:=He UO t av h;have m:=He xV t av h;have Xp:=He Ss t av h;have qz:=He KJ t av h;have Å:=mQ JK t av h;have ë:=He H5 t av h;rw[Ah hd] at k;rw[Ah (D _)] at j;rw[Ah (show¬t.ED by unfold FF.ED;omega)] at i;rw[Ah hx] at g;rw[Ah s] at qz;rw[Ah (en _)] at Å;simp only[Cl,hk] at l k j i g e f m Xp qz Å ë;unfold BS.DE;rw[Ad (show¬¬t.ok by unfold FF.ok;omega),Ad Ac,Ad hd,Ad (D _),Ad (show¬t.ED by unfold FF.ED;omega),Ad Ac,Ad hx];have z:BM (b.FA t) (n+2):=Ih (rm.le Ac) ht.Av ht.name;by_cases r:t.st Ow
 .rw[Af r];rw[Al r] at e;obtain⟨h1,v,c,w1,d⟩:=Æ (n:=n+2) w ba (rm.le Ac) ht hv;obtain⟨h2,F2,r2,y,x⟩:=aFb w1 z;refine⟨_,_,?_,y,d.trans x⟩;have C:BG cx 116 [Pt bi 0,.agg (Cl t av)] h (.tuple []) h2:=by rw[Ae,WR];simp only[BE,c.Ab,r2.Ab]
  simp only[Cl,hk] at C;rw[Ae,GH];simp only[abS,↓reduceIte,Cl,hk,l.Ab,k.Ab,j.Ab,i.Ab,g.Ab,e.Ab,(AP:¬(2:Int)=1),(AP:¬(2:Int)=4),C.Ab]
 rw[Ad r];rw[Ah r] at e;by_cases q:t.st [aVs];.rw[Af q];rw[Al q] at f;obtain⟨h1,v,c,w1,d⟩:=xW (n:=n+2) w ba (rm.le Ac) ht hv 2;refine⟨_,_,?_,w1,d⟩;simp only[Cl,hk] at c;rw[Ae,GH];simp only[abS,↓reduceIte,Cl,hk,l.Ab,k.Ab,j.Ab,i.Ab,g.Ab,e.Ab,f.Ab,(AP:¬(2:Int)=1),(AP:¬(2:Int)=4),c.Ab]
 rw[Ad q];rw[Ah q] at f;by_cases p:t.st pv;.rw[Af p];rw[Al p] at m;obtain⟨h1,v,c,w1,d⟩:=xW (n:=n+2) w ba (rm.le Ac) ht hv 3;refine⟨_,_,?_,w1,d⟩;simp only[Cl,hk] at c;rw[Ae,GH];simp only[abS,↓reduceIte,Cl,hk,l.Ab,k.Ab,j.Ab,i.Ab,g.Ab,e.Ab,f.Ab,m.Ab,(AP:¬(2:Int)=1),(AP:¬(2:Int)=4),c.Ab]
 rw[Ad p];rw[Ah p] at m;by_cases KG:t.st [aVx];.rw[Af KG];rw[Al KG] at Xp;obtain⟨h1,v,c,w1,d⟩:=xW (n:=n+2) w ba (rm.le Ac) ht hv 4;refine⟨_,_,?_,w1,d⟩;simp only[Cl,hk] at c;rw[Ae,GH];simp only[abS,↓reduceIte,Cl,hk,l.Ab,k.Ab,j.Ab,i.Ab,g.Ab,e.Ab,f.Ab,m.Ab,Xp.Ab,(AP:¬(2:Int)=1),(AP:¬(2:Int)=4),c.Ab]
 rw[Ad KG,Ad s,Ad (en _)];rw[Ah KG] at Xp;have NN:t.st [AM]:=⟨hk,by
  have key:∀w∈Hr,w∈Ow\/w∈[aVs]\/w∈pv\/w∈[aVx]\/w∈[AM]:=AP;rcases key _ hs.2 with h|h|h|h|h
  .exact absurd ⟨hk,h⟩ r
  .exact absurd ⟨hk,h⟩ q
  .exact absurd ⟨hk,h⟩ p
  .exact absurd ⟨hk,h⟩ KG
  .exact h⟩
 rw[Af NN];rw[Al NN] at ë;obtain⟨h1,v,c,w1,d⟩:=Æ (n:=n+2) w ba (rm.le Ac) ht hv;obtain⟨h2,F2,r2,y,x⟩:=aAY w1 z;obtain⟨N,K,H⟩:=aAV y false;obtain⟨M,B,G⟩:=Pg K 18;obtain⟨R,P,A⟩:=B.ltm;have S:(b.FA t).tm.length<=900000000:=by have:=z.tm;omega
 obtain⟨u,O,hu⟩:=aAt A.1 Dv (put (put h2 bi 14 ff) bi 4 (I 18));have Q:=hu.1.pJ 18 (by simp only;have:AW=140737488355328:=rfl;omega);have em:AD (.Dk 1) [I 18]=some (.sl 1 [B8 18]):=rfl;have IG:TC ((b.FA t).tm++[(18:Int)]) (.sl 1 (((b.FA t).tm++[(18:Int)]).map B8)):= .tX;obtain⟨L,J,E⟩:=aJ4 B IG;refine⟨_,_,?_,J,(((d.trans x).trans H).trans G).trans E⟩;simp only[Cl,hk] at c;rw[Ae,GH];simp only[abS,↓reduceIte,Cl,hk,l.Ab,k.Ab,j.Ab,i.Ab,g.Ab,e.Ab,f.Ab,m.Ab,Xp.Ab,qz.Ab,Å.Ab,ë.Ab,(AP:¬(2:Int)=1),(AP:¬(2:Int)=4),c.Ab,r2.Ab,N,M,P,O.Ab,em,Q,L]
def mT(g:Gz b (n+1) o a):BA {b with AQ:=b.AQ++[BS.HK b.head]}/\BM {b with AQ:=b.AQ++[BS.HK b.head]} n:=
 ⟨⟨g.ok.ok,g.ok.CG⟩,g.rm.xz (i:=BS.HK b.head) (l':=b.AQ++[BS.HK b.head]) AH (λj hj=>by simpa using hj) (AP:(aVk:Aj).length<=1000)⟩
def Ç(g:Gz b (n+7) o a)(ht:t.Sm)(hs:t.st Hr):BA (b.Lj t).1/\BM (b.Lj t).1 n:=by obtain⟨b1,d⟩:=mT g;obtain⟨b2,c⟩:=UP b1 d ht hs;unfold BS.Lj;exact⟨⟨b2.ok,b2.CG⟩,c.Sj Kh⟩
def aO2(w:PB h bi b F)(g:Gz b (n+1005) o a)(ht:t.Sm)(hv:Bi t.Av av)(hs:t.st Hr):Rb h F 119 [Pt bi 0,.agg (Cl t av),.func (.func 31) [] []] (.bool (b.Lj t).2) bi (b.Lj t).1:=by
 have Wv:=w.Wv;obtain⟨h1,v,p,w1,i⟩:=aE5 w g (BS.HK b.head);obtain⟨b1,c⟩:=mT (g.dn (n':=n+6+1) Ac);obtain⟨h2,F2,r2,k,f⟩:=aKb w1 b1 c ht hv hs;obtain⟨r,q,u,m,j,d⟩:=py k (UP b1 c ht hs).2 b.head;refine⟨q,u,?_,j,(i.trans f).trans d⟩;have e:AD (.Ch [I 0,I 0,S [],ff] [(0,1),(1,1),(2,1)]) [I b.head,I 1,S aVk]=some (.agg (BS.HK b.head).row):=rfl;have s:∀l,Dh (.func (.func 31) [] []) l=some (31,l):=λl=>by simp[Dh]
 rw[Ae,hC];simp only[BE,Wv,e,p.Ab,s,r2.Ab,m.Ab];rfl
def aO3(w:PB h bi b F)(g:Gz b (n+1005) o a)(ht:t.Sm)(hv:Bi t.Av av)(K:t.st [aVh]->Rb h F 34 [Pt bi 0,.agg (Cl t av)] ff bi (b.HT t)):Rb h F 33 [Pt bi 0,.agg (Cl t av)] (.bool (b.HL t).2) bi (b.HL t).1:=by
 have Wv:=w.Wv;unfold BS.HL;by_cases I:¬t.ok;.rw[Af I];have e:=aQ w t av;rw[Ah I] at e;refine⟨_,_,?_,w,.refl⟩;rw[Ae,KB];simp only[abS,↓reduceIte,e.Ab]
 rw[Ad I];have e:=aQ w t av;rw[Al (FE.1 I)] at e;by_cases i:t.k=1;.rw[Af i];refine⟨_,_,?_,w,.refl⟩;rw[Ae,KB];simp only[abS,↓reduceIte,e.Ab,AL i]
 rw[Ad i];by_cases H:t.st [aVk];.rw[Af H];have f:=He JK t av h;rw[Al H] at f;refine⟨_,_,?_,w,.refl⟩;rw[Ae,KB];simp only[abS,↓reduceIte,e.Ab,f.Ab,i]
 rw[Ad H];have f:=He JK t av h;rw[Ah H] at f;by_cases G:t.Zy Sq;.rw[Af G];have j:=mR dM t av h;rw[Al G] at j;refine⟨_,_,?_,w,.refl⟩;rw[Ae,KB];simp only[abS,↓reduceIte,e.Ab,f.Ab,j.Ab,i]
 rw[Ad G];have j:=mR dM t av h;rw[Ah G] at j;by_cases E:t.ED;.rw[Af E];have l:=mS t av h;rw[Al E] at l;obtain⟨h1,v,c,w1,d⟩:=X_ w (g.dn (n':=n+5) Ac) ht.r;refine⟨_,_,?_,w1,d⟩;rw[Ae,KB];simp only[abS,↓reduceIte,e.Ab,f.Ab,j.Ab,l.Ab,i,c.Ab]
 rw[Ad E];have l:=mS t av h;rw[Ah E] at l;by_cases p:t.k=4;.rw[Af p];obtain⟨h1,v,c,w1,d⟩:=UM (s:=t.data) w (g.dn (n':=n+1) Ac) (by have:=ht.data;omega) 0;refine⟨_,_,?_,w1,d⟩;rw[Ae,KB];simp only[abS,↓reduceIte,e.Ab,f.Ab,j.Ab,l.Ab,i,AL p,c.Ab]
 rw[Ad p];by_cases B:t.st [aVh];.rw[Af B];have m:=He KI t av h;rw[Al B] at m;obtain⟨h1,v,c,w1,d⟩:=K B;refine⟨_,_,?_,w1,d⟩;rw[Ae,KB];simp only[abS,↓reduceIte,e.Ab,f.Ab,j.Ab,l.Ab,m.Ab,i,p,c.Ab]
 rw[Ad B];have m:=He KI t av h;rw[Ah B] at m;by_cases D:t.st [aVn];.rw[Af D];have q:=He rX t av h;rw[Al D] at q;obtain⟨h1,v,c,w1,d⟩:=VM w (g.dn (n':=n+4) Ac) ht hv;obtain⟨J,z,y⟩:=aAV w1 false;obtain⟨N,M,L⟩:=Pg z 7;refine⟨_,_,?_,M,(d.trans y).trans L⟩;rw[Ae,KB];simp only[abS,↓reduceIte,e.Ab,f.Ab,j.Ab,l.Ab,m.Ab,q.Ab,i,p,c.Ab,J,N]
 rw[Ad D];have q:=He rX t av h;rw[Ah D] at q;by_cases C:t.st [aVr];.rw[Af C];have u:=He TO t av h;rw[Al C] at u;obtain⟨h1,v,c,w1,d⟩:=VM w (g.dn (n':=n+4) Ac) ht hv;obtain⟨J,z,y⟩:=Pg w1 20;refine⟨_,_,?_,z,d.trans y⟩;rw[Ae,KB];simp only[abS,↓reduceIte,e.Ab,f.Ab,j.Ab,l.Ab,m.Ab,q.Ab,u.Ab,i,p,c.Ab,J]
 rw[Ad C];have u:=He TO t av h;rw[Ah C] at u;by_cases A:t.st Hr;.rw[Af A];have x:=He dN t av h;rw[Al A] at x;obtain⟨h1,v,c,w1,d⟩:=aO2 w g ht hv A;refine⟨_,_,?_,w1,d⟩;rw[Ae,KB];simp only[abS,↓reduceIte,e.Ab,f.Ab,j.Ab,l.Ab,m.Ab,q.Ab,u.Ab,x.Ab,i,p,c.Ab]
 rw[Ad A];have x:=He dN t av h;rw[Ah A] at x;by_cases KG:t.en [AM];.rw[Af KG];have Xp:=mQ H5 t av h;rw[Al KG] at Xp;obtain⟨h1,v,c,w1,d⟩:=Ä w (g.dn (n':=n+1004) Ac) ht hv K;refine⟨_,_,?_,w1,d⟩;rw[Ae,KB];simp only[abS,↓reduceIte,e.Ab,f.Ab,j.Ab,l.Ab,m.Ab,q.Ab,u.Ab,x.Ab,Xp.Ab,i,p,c.Ab]
 rw[Ad KG];have Xp:=mQ H5 t av h;rw[Ah KG] at Xp;have rt:=aJ8 aVn h;obtain⟨h1,v,c,w1,d⟩:=VM (t:=Ra aVn) (av:= .slnil) w (g.dn (n':=n+4) Ac) (Q4 AP) (.inr ⟨rfl,rfl⟩);obtain⟨h2,F2,r2,z,y⟩:=aAX w1 7;simp only[Ra] at rt c;refine⟨_,_,?_,z,d.trans y⟩;rw[Ae,KB];simp only[abS,↓reduceIte,e.Ab,f.Ab,j.Ab,l.Ab,m.Ab,q.Ab,u.Ab,x.Ab,Xp.Ab,i,p,rt.Ab,c.Ab,r2.Ab,BS.again]
end
def MW(h:Ai)(F:Nat->Prop)(f:FuncId)(args:List Aa)(r:Aa)(bi:Nat)(b':BS):Prop:=∃h' F',BG cx f args h r h'/\RB h' bi b' F'/\DC h F h' F'
def WrR(h:Ai)(F:Nat->Prop)(bi k:Nat)(v:Aa)(b':BS):Prop:=Cv h 1 (.ptr (some (bi,k))) v=some (put h bi k v)/\RB (put h bi k v) bi b' F/\DC h F (put h bi k v) F
section
variable{h h':Ai}{bi:Nat}{b b':BS}{F:Nat->Prop}{n o a:Nat}{t:FF}{av:Aa}
def dO(w:RB h bi b F)(g:Gz b (n+4) o a)(hm:Nm b.a)(ht:t.Sm)(hv:Bi t.Av av):MW h F 86 [.ptr (some (bi,0)),.agg (Cl t av)] (.int .i64 (b.a.len+1)) bi (b.FA t):=by obtain⟨d,e,c,tt,G,w,hc,rfl⟩:=w;obtain⟨h',o',G',r,w',x⟩:=pd (m:=n) w g.ok g.rm hm KH hv ht.Av ht.name;exact⟨h',_,r,⟨d,o',c,tt,G',w',by unfold BS.FA;rw[D3];exact hc,rfl⟩,x⟩
def È(w:RB h bi b F)(g:Gz b (n+5) o a)(hm:Nm b.a)(r:Int):MW h F 89 [.ptr (some (bi,0)),.int .i32 r] (.tuple []) bi (b.Q6 r):=by obtain⟨e,d,c,tt,G,w,hc,rfl⟩:=w;obtain⟨h',G',r,w',x⟩:=aJE (m:=n) w g.ok g.rm hm r;exact⟨h',_,r,⟨e,d,c,tt,G',w',hc,rfl⟩,x⟩
def UQ(w:RB h bi b F)(g:Gz b (n+1) o a)(hm:Nm b.a){s:Aj}(hs:s.length<=100000)(x:Int):MW h F 90 [.ptr (some (bi,0)),.str s,.int .i64 x] (.tuple []) bi (b.Fc s x):=by obtain⟨e,d,c,tt,G,w,hc,rfl⟩:=w;obtain⟨h',G',r,w',x⟩:=aJF (m:=n) w g.ok g.rm hm s hs x;exact⟨h',_,r,⟨e,d,c,tt,G',w',hc,rfl⟩,x⟩
def dQ(w:RB h bi b F)(g:Gz b n o a):MW h F 136 [.ptr (some (bi,0))] (.tuple []) bi b.Jt:=by
 obtain⟨l,d,c,tt,G,w,hc,rfl⟩:=w;have ho:=g.rm.AQ;have ld:A7 h none (.ptr (some (bi,2)))=some d:=w.ld 2;obtain⟨u,i,j,hu⟩:=aAe (h:=h) w.o Ac;have e:b.Jt={b with AQ:=J0 b.AQ ((b.AQ.length:Int)-1)}:=by
  unfold BS.Jt J0;split
  .have h1:max 1 ((b.AQ.length:Int)-1).toNat=1:=by omega
   rw[h1,AF Ac]
  .have h1:max 1 ((b.AQ.length:Int)-1).toNat=b.AQ.length-1:=by omega
   rw[h1]
 have w1:=w.HQ (u:=i);have f:=w1.HZ hu;refine⟨_,_,?_,⟨l,u,c,tt,G,by rw[e];exact f,by rw[e];exact hc,rfl⟩,w.C2.trans Bf⟩;rw[Ae,bo];simp only[abS,↓reduceIte,ld,j.Ab,w1.st (k:=2) (v0:=d) rfl (AU.cells hu)]
def Lk(w:RB h bi b F)(v:Int):WrR h F bi 4 (.int .i64 v) {b with mode:=v}:=by obtain⟨e,d,c,tt,G,w,hc,rfl⟩:=w;exact⟨w.st (k:=4) rfl rfl,⟨e,d,c,tt,G,w.put rfl rfl w.o w.t,hc,rfl⟩,Bf⟩
def RB.Wv(w:RB h bi b F):A7 h none (.ptr (some (bi,1)))=some (.int .i64 b.CG)/\A7 h none (.ptr (some (bi,4)))=some (.int .i64 b.mode)/\A7 h none (.ptr (some (bi,5)))=some (.int .i64 b.Si)/\A7 h none (.ptr (some (bi,7)))=some (.int .i64 b.head):=by obtain⟨e,d,c,tt,G,w,hc,rfl⟩:=w;exact⟨w.ld 1,w.ld 4,w.ld 5,w.ld 7⟩
end
end Go.Am
end
section
end
