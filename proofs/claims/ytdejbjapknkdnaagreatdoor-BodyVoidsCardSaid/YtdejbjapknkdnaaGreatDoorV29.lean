/- Lemmas -/
import Derived.Test.YtdejbjapknkdnaaGreatDoorV28
set_option linter.all false
set_option maxRecDepth 100000
section
namespace Go.Am
open Go
def iW:KI aXI eHB:=NB (by decide+kernel)
def nZ:KI aXE dk:=NB (by decide+kernel)
def cL:KI aXQ tN:=NB (by decide+kernel)
def Õ:KI aYo eNo:=NB (by decide+kernel)
def n7:KI aXr Me:=NB (by decide+kernel)
def Ö:KI aX8 sNS:=NB (by decide+kernel)
def fk:KI aXd aAe:=NB (by decide+kernel)
def Ø:KI aYd sHN:=NB (by decide+kernel)
def Rk:KI aWR EY:=NB (by decide+kernel)
def Ù:KI aXm sT1:=NB (by decide+kernel)
def Ú:KI [116,100,32,116,104] sTd:=NB (by decide+kernel)
def Jw:KI aWS [aWS]:=NB (by decide+kernel)
def LS:KI aWW [aWW]:=NB (by decide+kernel)
def cM:KI aW4 [aW4]:=NB (by decide+kernel)
def Y3:KI aXg [aXg]:=NB (by decide+kernel)
def Mr:KI aW3 [aW3]:=NB (by decide+kernel)
def n8:KI aWX [aWX]:=NB (by decide+kernel)
def TT:KI aW0 [aW0]:=NB (by decide+kernel)
def fq:KI aYp [aYp]:=NB (by decide+kernel)
def Û:KI [116,114] [[116,114]]:=NB (by decide+kernel)
def GQ:KI aWU [aWU]:=NB (by decide+kernel)
section
variable{h h':Ae}{bi:Nat}{b b':BS}{F:Nat->Prop}{n o a:Nat}{t:Dv}{av:Aa}
def aOV(w:PB h bi b F)(g:Gz b (n+5) o a)(ht:t.Sm)(B:Bj t.Aq av):FA h F 44 [.ptr (some (bi,0)),.agg (Ct t av)] (.bool (b.Hj t).2) bi (b.Hj t).1:=by
 have B3:=w.B3;unfold BS.Hj;by_cases v:¬t.ok;.rw[if_pos v];have c:=Kc w t av;rw[Ak v] at c;refine⟨_,_,?_,w,.refl⟩;rw[Ac,Qr,Ŋ];simp only[abS,↓reduceIte,c.call]
 rw[if_neg v];have c:=Kc w t av;rw[Ag (EB.1 v)] at c;by_cases e:t.k=1;.rw[if_pos e];refine⟨_,_,?_,w,.refl⟩;rw[Ac,Qr,Ŋ];simp only[abS,↓reduceIte,c.call,BA e]
 rw[if_neg e];by_cases u:t.Ju;.rw[if_pos u];have d:=TS t av h;rw[Ag u] at d;refine⟨_,_,?_,w,.refl⟩;rw[Ac,Qr,Ŋ];simp only[abS,↓reduceIte,c.call,d.call,e]
 rw[if_neg u];have d:=TS t av h;rw[Ak u] at d;by_cases r:t.nU eHB;.rw[if_pos r];have f:=ZX iW t av h;rw[Ag r] at f;refine⟨_,_,?_,w,.refl⟩;rw[Ac,Qr,Ŋ];simp only[abS,↓reduceIte,c.call,d.call,f.call,e]
 rw[if_neg r];have f:=ZX iW t av h;rw[Ak r] at f;by_cases p:t.k=4;.rw[if_pos p];obtain⟨h1,z,i,l,j⟩:=Mw (s:=t.data) w (g.dn (n':=n+1) (by omega)) (by have:=ht.data;omega) b.CB;refine⟨_,_,?_,l,j⟩;rw[Ac,Qr,Ŋ];simp only[abS,↓reduceIte,c.call,d.call,f.call,e,BA p,i.call,B3]
 rw[if_neg p];by_cases q:t.st [aWS];.rw[if_pos q];have m:=FZ Jw t av h;rw[Ag q] at m;obtain⟨h1,z,i,l,j⟩:=E4 w (g.dn (n':=n+4) (by omega)) ht B;obtain⟨A,y,x⟩:=Gk l 3;refine⟨_,_,?_,y,j.trans x⟩;rw[Ac,Qr,Ŋ];simp only[abS,↓reduceIte,c.call,d.call,f.call,m.call,e,p,i.call,A]
 rw[if_neg q];have m:=FZ Jw t av h;rw[Ak q] at m;have rt:=Ô aWS h;obtain⟨h1,z,i,l,j⟩:=E4 (t:=HG aWS) (av:= .slnil) w (g.dn (n':=n+4) (by omega)) (Iu (by decide)) (.inr ⟨rfl,rfl⟩);obtain⟨h2,C,r2,y,x⟩:=tS l 3;simp only[HG] at rt i;refine⟨_,_,?_,y,j.trans x⟩;rw[Ac,Qr,Ŋ];simp only[abS,↓reduceIte,c.call,d.call,f.call,m.call,e,p,rt.call,i.call,r2.call,BS.again]
def aOW(w:PB h bi b F)(g:Gz b (n+1000) o a)(ht:t.Sm)(I:Bj t.Aq av)(J:t.st [aWS]->FA h F 49 [.ptr (some (bi,0)),.agg (Ct t av)] ff bi (b.Jb t)):FA h F 45 [.ptr (some (bi,0)),.agg (Ct t av)] (.bool (b.Hk t).2) bi (b.Hk t).1:=by
 have B3:=w.B3;unfold BS.Hk;by_cases y:¬t.ok;.rw[if_pos y];have c:=Kc w t av;rw[Ak y] at c;refine⟨_,_,?_,w,.refl⟩;rw[Ac,O4,ā];simp only[abS,↓reduceIte,c.call]
 rw[if_neg y];have c:=Kc w t av;rw[Ag (EB.1 y)] at c;by_cases e:t.k=1;.rw[if_pos e];refine⟨_,_,?_,w,.refl⟩;rw[Ac,O4,ā];simp only[abS,↓reduceIte,c.call,BA e]
 rw[if_neg e];by_cases x:t.Ju;.rw[if_pos x];have d:=TS t av h;rw[Ag x] at d;refine⟨_,_,?_,w,.refl⟩;rw[Ac,O4,ā];simp only[abS,↓reduceIte,c.call,d.call,e]
 rw[if_neg x];have d:=TS t av h;rw[Ak x] at d;by_cases v:t.nU eHB;.rw[if_pos v];have i:=ZX iW t av h;rw[Ag v] at i;refine⟨_,_,?_,w,.refl⟩;rw[Ac,O4,ā];simp only[abS,↓reduceIte,c.call,d.call,i.call,e]
 rw[if_neg v];have i:=ZX iW t av h;rw[Ak v] at i;by_cases p:t.k=4;.rw[if_pos p];obtain⟨h1,E,f,l,j⟩:=Mw (s:=t.data) w (g.dn (n':=n+1) (by omega)) (by have:=ht.data;omega) 0;refine⟨_,_,?_,l,j⟩;rw[Ac,O4,ā];simp only[abS,↓reduceIte,c.call,d.call,i.call,e,BA p,f.call]
 rw[if_neg p];by_cases r:t.st [aWS];.rw[if_pos r];have m:=FZ Jw t av h;rw[Ag r] at m;obtain⟨h1,E,f,l,j⟩:=J r;refine⟨_,_,?_,l,j⟩;rw[Ac,O4,ā];simp only[abS,↓reduceIte,c.call,d.call,i.call,m.call,e,p,f.call]
 rw[if_neg r];have m:=FZ Jw t av h;rw[Ak r] at m;by_cases u:t.st [aWW];.rw[if_pos u];have q:=FZ LS t av h;rw[Ag u] at q;obtain⟨h1,E,f,l,j⟩:=E4 w (g.dn (n':=n+4) (by omega)) ht I;obtain⟨D,C,A⟩:=Ñ l (b.MQ 1);obtain⟨G,B,z⟩:=Gk C 4;refine⟨_,_,?_,B,(j.trans A).trans z⟩;rw[Ac,O4,ā];simp only[abS,↓reduceIte,c.call,d.call,i.call,m.call,q.call,e,p,f.call,D,G]
 rw[if_neg u];have q:=FZ LS t av h;rw[Ak u] at q;have rt:=Ô aWW h;obtain⟨h1,E,f,l,j⟩:=E4 (t:=HG aWW) (av:= .slnil) w (g.dn (n':=n+4) (by omega)) (Iu (by decide)) (.inr ⟨rfl,rfl⟩);obtain⟨D,C,A⟩:=Ñ l (b.MQ 1);obtain⟨h3,K,H,B,z⟩:=tS C 4;simp only[HG] at rt f;refine⟨_,_,?_,B,(j.trans A).trans z⟩;rw[Ac,O4,ā];simp only[abS,↓reduceIte,c.call,d.call,i.call,m.call,q.call,e,p,rt.call,f.call,D,H.call,BS.again]
def iX(w:PB h bi b F)(g:Gz b (n+1004) o a)(ht:t.Sm)(G:Bj t.Aq av)(hh:t.st [aWS]->FA h F 49 [.ptr (some (bi,0)),.agg (Ct t av)] ff bi (b.Jb t)):FA h F 46 [.ptr (some (bi,0)),.agg (Ct t av)] (.bool (b.Dh t).2) bi (b.Dh t).1:=by
 have B3:=w.B3;unfold BS.Dh;by_cases P:¬t.ok;.rw[if_pos P];have f:=Kc w t av;rw[Ak P] at f;refine⟨_,_,?_,w,.refl⟩;rw[Ac,IM,t46];simp only[abS,↓reduceIte,f.call]
 rw[if_neg P];have f:=Kc w t av;rw[Ag (EB.1 P)] at f;by_cases l:t.k=1;.rw[if_pos l];refine⟨_,_,?_,w,.refl⟩;rw[Ac,IM,t46];simp only[abS,↓reduceIte,f.call,BA l]
 rw[if_neg l];by_cases O:t.st [aWW];.rw[if_pos O];have i:=FZ LS t av h;rw[Ag O] at i;refine⟨_,_,?_,w,.refl⟩;rw[Ac,IM,t46];simp only[abS,↓reduceIte,f.call,i.call,l]
 rw[if_neg O];have i:=FZ LS t av h;rw[Ak O] at i;by_cases N:t.nU dk;.rw[if_pos N];have m:=ZX nZ t av h;rw[Ag N] at m;refine⟨_,_,?_,w,.refl⟩;rw[Ac,IM,t46];simp only[abS,↓reduceIte,f.call,i.call,m.call,l]
 rw[if_neg N];have m:=ZX nZ t av h;rw[Ak N] at m;by_cases M:t.Ju;.rw[if_pos M];have p:=TS t av h;rw[Ag M] at p;obtain⟨h1,B,e,d,c⟩:=YZ w (g.dn (n':=n+5) (by omega)) ht.r;refine⟨_,_,?_,d,c⟩;rw[Ac,IM,t46];simp only[abS,↓reduceIte,f.call,i.call,m.call,p.call,l,e.call]
 rw[if_neg M];have p:=TS t av h;rw[Ak M] at p;by_cases x:t.k=4;.rw[if_pos x];obtain⟨h1,B,e,d,c⟩:=Mw (s:=t.data) w (g.dn (n':=n+1) (by omega)) (by have:=ht.data;omega) 0;refine⟨_,_,?_,d,c⟩;rw[Ac,IM,t46];simp only[abS,↓reduceIte,f.call,i.call,m.call,p.call,l,BA x,e.call]
 rw[if_neg x];by_cases H:t.st [aWS];.rw[if_pos H];have q:=FZ Jw t av h;rw[Ag H] at q;obtain⟨h1,B,e,d,c⟩:=hh H;refine⟨_,_,?_,d,c⟩;rw[Ac,IM,t46];simp only[abS,↓reduceIte,f.call,i.call,m.call,p.call,q.call,l,x,e.call]
 rw[if_neg H];have q:=FZ Jw t av h;rw[Ak H] at q;by_cases L:t.st Me;.rw[if_pos L];have y:=FZ n7 t av h;rw[Ag L] at y;obtain⟨h1,B,e,d,c⟩:=tT w (g.dn (n':=n+4) (by omega)) ht G;refine⟨_,_,?_,d,c⟩;rw[Ac,IM,t46];simp only[abS,↓reduceIte,f.call,i.call,m.call,p.call,q.call,y.call,l,x,e.call]
 rw[if_neg L];have y:=FZ n7 t av h;rw[Ak L] at y;by_cases K:t.st [aW4];.rw[if_pos K];have z:=FZ cM t av h;rw[Ag K] at z;obtain⟨h1,B,e,d,c⟩:=Y0 w (g.dn (n':=n+4) (by omega)) ht G 2;refine⟨_,_,?_,d,c⟩;rw[Ac,IM,t46];simp only[abS,↓reduceIte,f.call,i.call,m.call,p.call,q.call,y.call,z.call,l,x,e.call]
 rw[if_neg K];have z:=FZ cM t av h;rw[Ak K] at z;by_cases J:t.st sNS;.rw[if_pos J];have C:=FZ Ö t av h;rw[Ag J] at C;obtain⟨h1,B,e,d,c⟩:=Y0 w (g.dn (n':=n+4) (by omega)) ht G 3;refine⟨_,_,?_,d,c⟩;rw[Ac,IM,t46];simp only[abS,↓reduceIte,f.call,i.call,m.call,p.call,q.call,y.call,z.call,C.call,l,x,e.call]
 rw[if_neg J];have C:=FZ Ö t av h;rw[Ak J] at C;by_cases Pe:t.st [aXg];.rw[if_pos Pe];have tU:=FZ Y3 t av h;rw[Ag Pe] at tU;obtain⟨h1,B,e,d,c⟩:=Y0 w (g.dn (n':=n+4) (by omega)) ht G 4;refine⟨_,_,?_,d,c⟩;rw[Ac,IM,t46];simp only[abS,↓reduceIte,f.call,i.call,m.call,p.call,q.call,y.call,z.call,C.call,tU.call,l,x,e.call]
 rw[if_neg Pe];have tU:=FZ Y3 t av h;rw[Ak Pe] at tU;by_cases UZ:t.st [aW3];.rw[if_pos UZ];have j:=FZ Mr t av h;rw[Ag UZ] at j;obtain⟨h1,B,e,d,c⟩:=E4 w (g.dn (n':=n+4) (by omega)) ht G;obtain⟨Q,E,D⟩:=Gk d 5;refine⟨_,_,?_,E,c.trans D⟩;rw[Ac,IM,t46];simp only[abS,↓reduceIte,f.call,i.call,m.call,p.call,q.call,y.call,z.call,C.call,tU.call,j.call,l,x,e.call,Q]
 rw[if_neg UZ];have j:=FZ Mr t av h;rw[Ak UZ] at j;by_cases Wk:t.en [aWW];.rw[if_pos Wk];have om:=ZW LS t av h;rw[Ag Wk] at om;obtain⟨h1,B,e,d,c⟩:=PD w (g.dn (n':=n) (by omega));obtain⟨Q,E,D⟩:=Gk d 6;refine⟨_,_,?_,E,c.trans D⟩;rw[Ac,IM,t46];simp only[abS,↓reduceIte,f.call,i.call,m.call,p.call,q.call,y.call,z.call,C.call,tU.call,j.call,om.call,l,x,e.call,Q]
 rw[if_neg Wk];have om:=ZW LS t av h;rw[Ak Wk] at om;by_cases iY:t.st [AF]
 .rw[if_pos iY];have v:=FZ GQ t av h;rw[Ag iY] at v;obtain⟨h1,B,e,d,c⟩:=E4 w (g.dn (n':=n+4) (by omega)) ht G;have g1:=(g.dn (n':=n+2+4) (by omega)).C6 ht;obtain⟨h2,F2,r2,E,D⟩:=Ï d g1;obtain⟨s3,X,V⟩:=LR E false;obtain⟨Z,S,U⟩:=Gk X 18;obtain⟨tv,l5,R⟩:=S.ltm;have tb:(b.C6 t).tm.length<=900000000:=by have:=g1.rm.tm;omega
  obtain⟨u,r5,hu⟩:=ź R (by simp only;omega) (put (put h2 bi 14 ff) bi 4 (I 18));have e6:=Br.mG (b:=8) (a:=(18:Int)) hu (by simp only;have:AN=140737488355328:=rfl;omega);have em:Az (.Cl 1) [I 18]=some (.sl 1 [CY 18]):=rfl;have Ti:Hh ((b.C6 t).tm++[(18:Int)]) (.sl 1 (((b.C6 t).tm++[(18:Int)]).map CY)):= .mk;obtain⟨Y,W,T⟩:=aJD S Ti;refine⟨_,_,?_,W,(((c.trans D).trans V).trans U).trans T⟩;rw[Ac,IM,t46];simp only[abS,↓reduceIte,f.call,i.call,m.call,p.call,q.call,y.call,z.call,C.call,tU.call,j.call,om.call,v.call,l,x,e.call,r2.call,s3,Z,l5,r5.call,em,e6,Y]
 rw[if_neg iY];have v:=FZ GQ t av h;rw[Ak iY] at v;by_cases cN:t.en [AF];.rw[if_pos cN];have A:=ZW GQ t av h;rw[Ag cN] at A;obtain⟨h1,B,e,d,c⟩:=aFM w (g.dn (n':=n) (by omega));refine⟨_,_,?_,d,c⟩;rw[Ac,IM,t46];simp only[abS,↓reduceIte,f.call,i.call,m.call,p.call,q.call,y.call,z.call,C.call,tU.call,j.call,om.call,v.call,A.call,l,x,e.call]
 rw[if_neg cN];have A:=ZW GQ t av h;rw[Ak cN] at A;obtain⟨h1,B,e,d,c⟩:=PD w (g.dn (n':=n) (by omega));obtain⟨h2,F2,r2,E,D⟩:=tS d 6;refine⟨_,_,?_,E,c.trans D⟩;rw[Ac,IM,t46];simp only[abS,↓reduceIte,f.call,i.call,m.call,p.call,q.call,y.call,z.call,C.call,tU.call,j.call,om.call,v.call,A.call,l,x,e.call,r2.call,BS.again]
def aOX(w:PB h bi b F)(g:Gz b (n+1004) o a)(ht:t.Sm)(H:Bj t.Aq av)(D:t.st [aWS]->FA h F 49 [.ptr (some (bi,0)),.agg (Ct t av)] ff bi (b.Jb t)):FA h F 47 [.ptr (some (bi,0)),.agg (Ct t av)] (.bool (b.Hl t).2) bi (b.Hl t).1:=by
 have B3:=w.B3;unfold BS.Hl;by_cases C:¬t.ok;.rw[if_pos C];have c:=Kc w t av;rw[Ak C] at c;refine⟨_,_,?_,w,.refl⟩;rw[Ac,MV,qw];simp only[abS,↓reduceIte,c.call]
 rw[if_neg C];have c:=Kc w t av;rw[Ag (EB.1 C)] at c;by_cases j:t.k=1;.rw[if_pos j];refine⟨_,_,?_,w,.refl⟩;rw[Ac,MV,qw];simp only[abS,↓reduceIte,c.call,BA j]
 rw[if_neg j];by_cases B:t.st sHN;.rw[if_pos B];have i:=FZ Ø t av h;rw[Ag B] at i;refine⟨_,_,?_,w,.refl⟩;rw[Ac,MV,qw];simp only[abS,↓reduceIte,c.call,i.call,j]
 rw[if_neg B];have i:=FZ Ø t av h;rw[Ak B] at i;by_cases A:t.nU eNo;.rw[if_pos A];have l:=ZX Õ t av h;rw[Ag A] at l;refine⟨_,_,?_,w,.refl⟩;rw[Ac,MV,qw];simp only[abS,↓reduceIte,c.call,i.call,l.call,j]
 rw[if_neg A];have l:=ZX Õ t av h;rw[Ak A] at l;by_cases u:t.st [aWS];.rw[if_pos u];have m:=FZ Jw t av h;rw[Ag u] at m;obtain⟨h1,v,f,e,d⟩:=D u;refine⟨_,_,?_,e,d⟩;rw[Ac,MV,qw];simp only[abS,↓reduceIte,c.call,i.call,l.call,m.call,j,f.call]
 rw[if_neg u];have m:=FZ Jw t av h;rw[Ak u] at m;by_cases z:t.en [aW3];.rw[if_pos z];have p:=ZW Mr t av h;rw[Ag z] at p;obtain⟨h1,v,f,e,d⟩:=PD w (g.dn (n':=n) (by omega));obtain⟨I,G,E⟩:=Gk e 4;refine⟨_,_,?_,G,d.trans E⟩;rw[Ac,MV,qw];simp only[abS,↓reduceIte,c.call,i.call,l.call,m.call,p.call,j,f.call,I]
 rw[if_neg z];have p:=ZW Mr t av h;rw[Ak z] at p;by_cases y:t.Ju;.rw[if_pos y];have q:=TS t av h;rw[Ag y] at q;obtain⟨h1,v,f,e,d⟩:=iX w g ht H D;refine⟨_,_,?_,e,d⟩;rw[Ac,MV,qw];simp only[abS,↓reduceIte,c.call,i.call,l.call,m.call,p.call,q.call,j,f.call]
 rw[if_neg y];have q:=TS t av h;rw[Ak y] at q;by_cases s:t.k=4;.rw[if_pos s];obtain⟨h1,v,f,e,d⟩:=iX w g ht H D;refine⟨_,_,?_,e,d⟩;rw[Ac,MV,qw];simp only[abS,↓reduceIte,c.call,i.call,l.call,m.call,p.call,q.call,j,BA s,f.call]
 rw[if_neg s];by_cases x:t.st aAe;.rw[if_pos x];have r:=FZ fk t av h;rw[Ag x] at r;obtain⟨h1,v,f,e,d⟩:=iX w g ht H D;refine⟨_,_,?_,e,d⟩;rw[Ac,MV,qw];simp only[abS,↓reduceIte,c.call,i.call,l.call,m.call,p.call,q.call,r.call,j,s,f.call]
 rw[if_neg x];have r:=FZ fk t av h;rw[Ak x] at r;obtain⟨h1,v,f,e,d⟩:=PD w (g.dn (n':=n) (by omega));obtain⟨h2,J,r2,G,E⟩:=tS e 4;refine⟨_,_,?_,G,d.trans E⟩;rw[Ac,MV,qw];simp only[abS,↓reduceIte,c.call,i.call,l.call,m.call,p.call,q.call,r.call,j,s,f.call,r2.call,BS.again]
def aOY(w:PB h bi b F)(g:Gz b (n+1005) o a)(ho:M3 b)(ht:t.Sm)(q:Bj t.Aq av)(hs:t.st EY):FA h F 76 [.ptr (some (bi,0)),.agg (Ct t av),.func (.func 46) [] []] (.bool (b.Ii t).2) bi (b.Ii t).1:=by
 have B3:=w.B3;obtain⟨h1,x,p,k,f⟩:=aFN w g (BS.EM b.head);have g1:=Gz.push (n:=n+1004) g ho;have hx:¬t.st [aWS]:=λh=>by have h1:=h.2;have h2:=hs.2;rw[Be.1 h1] at h2;revert h2;decide
 obtain⟨h2,v,r2,j,d⟩:=iX k g1 ht q (λh=>absurd h hx);obtain⟨r,h3,u,m,i,c⟩:=Y2 j (g1.Dh ht) b.head;refine⟨h3,u,?_,i,(f.trans d).trans c⟩;have e:Az (.CT [I 0,I 0,S [],ff] [(0,1),(1,1),(2,1)]) [.int .i64 b.head,I 1,S aWW]=some (.agg (BS.EM b.head).row):=rfl;have s:∀l,CD (.func (.func 46) [] []) l=some (46,l):=λl=>by simp[CD]
 rw[Ac,yx,t76];simp only[Ce,B3,e,p.call,s,r2.call,m.call];rfl
def aOZ(w:PB h bi b F)(g:Gz b (n+1005) o a)(ht:t.Sm)(K:Bj t.Aq av)(ho:M3 b)(M:t.st [aWS]->FA h F 49 [.ptr (some (bi,0)),.agg (Ct t av)] ff bi (b.Jb t)):FA h F 48 [.ptr (some (bi,0)),.agg (Ct t av)] (.bool (b.HH t).2) bi (b.HH t).1:=by
 have B3:=w.B3;unfold BS.HH;by_cases J:¬t.ok;.rw[if_pos J];have f:=Kc w t av;rw[Ak J] at f;refine⟨_,_,?_,w,.refl⟩;rw[Ac,K6,xC];simp only[abS,↓reduceIte,f.call]
 rw[if_neg J];have f:=Kc w t av;rw[Ag (EB.1 J)] at f;by_cases j:t.k=1;.rw[if_pos j];refine⟨_,_,?_,w,.refl⟩;rw[Ac,K6,xC];simp only[abS,↓reduceIte,f.call,BA j]
 rw[if_neg j];by_cases I:t.st [aWW];.rw[if_pos I];have i:=FZ LS t av h;rw[Ag I] at i;refine⟨_,_,?_,w,.refl⟩;rw[Ac,K6,xC];simp only[abS,↓reduceIte,f.call,i.call,j]
 rw[if_neg I];have i:=FZ LS t av h;rw[Ak I] at i;by_cases H:t.nU tN;.rw[if_pos H];have l:=ZX cL t av h;rw[Ag H] at l;refine⟨_,_,?_,w,.refl⟩;rw[Ac,K6,xC];simp only[abS,↓reduceIte,f.call,i.call,l.call,j]
 rw[if_neg H];have l:=ZX cL t av h;rw[Ak H] at l;by_cases G:t.Ju;.rw[if_pos G];have m:=TS t av h;rw[Ag G] at m;obtain⟨h1,x,c,e,d⟩:=YZ w (g.dn (n':=n+5) (by omega)) ht.r;refine⟨_,_,?_,e,d⟩;rw[Ac,K6,xC];simp only[abS,↓reduceIte,f.call,i.call,l.call,m.call,j,c.call]
 rw[if_neg G];have m:=TS t av h;rw[Ak G] at m;by_cases q:t.k=4;.rw[if_pos q];obtain⟨h1,x,c,e,d⟩:=Mw (s:=t.data) w (g.dn (n':=n+1) (by omega)) (by have:=ht.data;omega) 0;refine⟨_,_,?_,e,d⟩;rw[Ac,K6,xC];simp only[abS,↓reduceIte,f.call,i.call,l.call,m.call,j,BA q,c.call]
 rw[if_neg q];by_cases C:t.st [aWS];.rw[if_pos C];have p:=FZ Jw t av h;rw[Ag C] at p;obtain⟨h1,x,c,e,d⟩:=M C;refine⟨_,_,?_,e,d⟩;rw[Ac,K6,xC];simp only[abS,↓reduceIte,f.call,i.call,l.call,m.call,p.call,j,q,c.call]
 rw[if_neg C];have p:=FZ Jw t av h;rw[Ak C] at p;by_cases E:t.st [aWX];.rw[if_pos E];have u:=FZ n8 t av h;rw[Ag E] at u;obtain⟨h1,x,c,e,d⟩:=E4 w (g.dn (n':=n+4) (by omega)) ht K;obtain⟨L,A,z⟩:=LR e false;obtain⟨P,O,N⟩:=Gk A 7;refine⟨_,_,?_,O,(d.trans z).trans N⟩;rw[Ac,K6,xC];simp only[abS,↓reduceIte,f.call,i.call,l.call,m.call,p.call,u.call,j,q,c.call,L,P]
 rw[if_neg E];have u:=FZ n8 t av h;rw[Ak E] at u;by_cases D:t.st [aW0];.rw[if_pos D];have v:=FZ TT t av h;rw[Ag D] at v;obtain⟨h1,x,c,e,d⟩:=E4 w (g.dn (n':=n+4) (by omega)) ht K;obtain⟨L,A,z⟩:=Gk e 20;refine⟨_,_,?_,A,d.trans z⟩;rw[Ac,K6,xC];simp only[abS,↓reduceIte,f.call,i.call,l.call,m.call,p.call,u.call,v.call,j,q,c.call,L]
 rw[if_neg D];have v:=FZ TT t av h;rw[Ak D] at v;by_cases B:t.st EY;.rw[if_pos B];have y:=FZ Rk t av h;rw[Ag B] at y;obtain⟨h1,x,c,e,d⟩:=aOY w g ho ht K B;refine⟨_,_,?_,e,d⟩;rw[Ac,K6,xC];simp only[abS,↓reduceIte,f.call,i.call,l.call,m.call,p.call,u.call,v.call,y.call,j,q,c.call]
 rw[if_neg B];have y:=FZ Rk t av h;rw[Ak B] at y;by_cases Pe:t.en [AF];.rw[if_pos Pe];have tU:=ZW GQ t av h;rw[Ag Pe] at tU;obtain⟨h1,x,c,e,d⟩:=iX w (g.dn (n':=n+1004) (by omega)) ht K M;refine⟨_,_,?_,e,d⟩;rw[Ac,K6,xC];simp only[abS,↓reduceIte,f.call,i.call,l.call,m.call,p.call,u.call,v.call,y.call,tU.call,j,q,c.call]
 rw[if_neg Pe];have tU:=ZW GQ t av h;rw[Ak Pe] at tU;have rt:=Ô aWX h;obtain⟨h1,x,c,e,d⟩:=E4 (t:=HG aWX) (av:= .slnil) w (g.dn (n':=n+4) (by omega)) (Iu (by decide)) (.inr ⟨rfl,rfl⟩);obtain⟨h2,Q,r2,A,z⟩:=tS e 7;simp only[HG] at rt c;refine⟨_,_,?_,A,d.trans z⟩;rw[Ac,K6,xC];simp only[abS,↓reduceIte,f.call,i.call,l.call,m.call,p.call,u.call,v.call,y.call,tU.call,j,q,rt.call,c.call,r2.call,BS.again]
def aO0(w:PB h bi b F)(g:Gz b (n+5) o a)(ht:t.Sm)(y:Bj t.Aq av):FA h F 50 [.ptr (some (bi,0)),.agg (Ct t av)] (.bool (b.Ma t).2) bi (b.Ma t).1:=by
 have B3:=w.B3;unfold BS.Ma;by_cases p:¬t.ok;.rw[if_pos p];have d:=Kc w t av;rw[Ak p] at d;refine⟨_,_,?_,w,.refl⟩;rw[Ac,UM,t50];simp only[abS,↓reduceIte,d.call]
 rw[if_neg p];have d:=Kc w t av;rw[Ag (EB.1 p)] at d;by_cases f:t.k=5;.rw[if_pos f];obtain⟨h1,v,j,e,i⟩:=YZ w (g.dn (n':=n+5) (by omega)) ht.r;refine⟨_,_,?_,e,i⟩;rw[Ac,UM,t50];simp only[abS,↓reduceIte,d.call,BA f,j.call]
 rw[if_neg f];by_cases l:t.k=6
 .rw[if_pos l];obtain⟨h1,v,j,e,i⟩:=PD w (g.dn (n':=n) (by omega));have u:b.Gs.GM=b.GM:=by unfold BS.Gs;split<;>rfl
  have c:=e.B3;rw[u] at c;obtain⟨h2,z,r2,s,q⟩:=tS e b.GM;refine⟨_,_,?_,s,i.trans q⟩;rw[Ac,UM,t50];simp only[abS,↓reduceIte,d.call,f,BA l,j.call,c,r2.call,BS.again]
 rw[if_neg l];by_cases m:t.k=3
 .rw[if_pos m];obtain⟨h1,v,j,e,i⟩:=PD w (g.dn (n':=n) (by omega));have u:b.Gs.GM=b.GM:=by unfold BS.Gs;split<;>rfl
  have c:=e.B3;rw[u] at c;obtain⟨x,s,q⟩:=Gk e b.GM;refine⟨_,_,?_,s,i.trans q⟩;rw[Ac,UM,t50];simp only[abS,↓reduceIte,d.call,f,l,BA m,j.call,c,x]
 rw[if_neg m];refine⟨_,_,?_,w,.refl⟩;rw[Ac,UM,t50];simp only[abS,↓reduceIte,d.call,f,l,m]
end
structure SW(h:Ae)(bi:Nat)(b:BS)(F:Nat->Prop)(si:Nat)(t:Dv)(av:Aa):Prop where
 pb:PB h bi b F
 sc:h[si]?=some (.cells (.ptr (some (bi,0))::Ct t av))
 no:¬F si
section
variable{h h':Ae}{bi si:Nat}{b b':BS}{F F':Nat->Prop}{n o a:Nat}{t:Dv}{av:Aa}
def SW.after(w:SW h bi b F si t av)(p:PB h' bi b' F')(x:Ey h F h' F'):SW h' bi b' F' si t av:=by
 have hl:=(Af.1 w.sc).1;refine⟨p,by rw[x.old si hl w.no];exact w.sc,λhf=>?_⟩;rcases x.BN si hf with h1|h1
 .exact w.no h1
 .omega
def SW.B3(w:SW h bi b F si t av):Bg h none (.ptr (some (si,0)))=some (.ptr (some (bi,0)))/\Bg h (some 12) (.ptr (some (si,1)))=some (.agg (Ct t av))/\Bg h none (.ptr (some (si,2)))=some (.str t.name)/\Bg h none (.ptr (some (si,12)))=some (.int .i32 t.r)/\Bg h none (.ptr (some (si,10)))=some (.bool t.sc)/\Bg h none (.ptr (some (bi,1)))=some (.int .i64 b.CB)/\Bg h none (.ptr (some (bi,4)))=some (.int .i64 b.mode)/\Bg h none (.ptr (some (bi,5)))=some (.int .i64 b.GM)/\Bg h none (.ptr (some (bi,7)))=some (.int .i64 b.head)/\Bg h none (.ptr (some (bi,8)))=some (.int .i64 b.FJ)/\Bg h none (.ptr (some (bi,14)))=some (.bool b.fs)/\Bg h none (.ptr (some (bi,18)))=some (.int .i64 b.sw)/\Bg h none (.ptr (some (bi,19)))=some (.bool b.stop):=by refine⟨by simp only[Bg,w.sc];rfl,by simp only[Bg,w.sc];rfl,by simp only[Bg,w.sc];rfl,by simp only[Bg,w.sc];rfl,by simp only[Bg,w.sc];rfl,w.pb.B3⟩
def n9{s:Ad}:Az (.Cl 1) [.str s]=some (.sl 1 ([s].map B1)):=Ef (ws:=[s]) rfl (by simp)
def TU(w:SW h bi b F si t av)(g:Gz b n o a)(s:Ad):Cj cx 202 [.ptr (some (si,0)),.str s] h (.bool (b.has [s])) h:=by have l0:=w.B3;have c:=TR w.pb g 1 (CO (ws:=[s])) (by simp);rw[Ac,zH,aEk];simp only[abS,l0,n9,c.call];rfl
def iZ(w:SW h bi b F si t av)(g:Gz b n o a)(s ex:Ad):FA h F 203 [.ptr (some (si,0)),.str s,.str ex] (.tuple []) bi (b.Dt s ex):=by have l0:=w.B3;obtain⟨_,h1,p,k,i,d⟩:=Mx w.pb g ex;have e:=w.after i d;have l1:=e.B3;obtain⟨_,h2,m,r2,f,c⟩:=iT i (g.Ka C5) (CO (ws:=[s])) (by simp);have j:=e.after f c;have l:=j.B3;refine⟨_,_,?_,f,d.trans c⟩;rw[Ac,zI,aEl];simp only[abS,l0,k.call,l1,r2.call,n9]
def Ü(w:SW h bi b F si t av)(g:Gz b (n+4) o a)(ht:t.Sm)(l:Bj t.Aq av):FA h F 123 [.ptr (some (si,0))] (.tuple []) bi (b.block t):=by have l0:=w.B3;obtain⟨h1,q,k,i,d⟩:=Jv w.pb g;have e:=w.after i d;have l1:=e.B3;obtain⟨h2,p,r2,f,c⟩:=E4 i g.Cs ht l;have j:=e.after f c;have m:=j.B3;refine⟨_,_,?_,f,d.trans c⟩;rw[Ac,xV,aDL];simp only[abS,l0,k.call,l1,r2.call]
def aO1(s:Ad):L4 cx 199 [.str s] (.bool (decide (s∈Da))):=by
 rw[PJ,zE,aEh];match s with
 |[]=>simp[Da]
 |[a]=>simp[Da]
 |[a,b]=>
  have e:decide ([a,b]∈Da)=decide (a.toNat=104/\49<=b.toNat/\b.toNat<=54):=by
   simp only[Da,Aw,DY,LW,Dq,M8,<-VQ];have f:UInt8.toNat 104=104/\UInt8.toNat 49=49/\UInt8.toNat 50=50/\UInt8.toNat 51=51/\UInt8.toNat 52=52/\UInt8.toNat 53=53/\UInt8.toNat 54=54:=by decide
   simp only[f];rw[DX];omega
  rw[e];have i1:((a.toNat:Int)=104)↔a.toNat=104:=by omega
  have d:((49:Int)<=b.toNat)↔49<=b.toNat:=by omega
  have i3:((b.toNat:Int)<=54)↔b.toNat<=54:=by omega
  have g:((b.toNat:Int)<49)↔b.toNat<49:=by omega
  simp[i1,d,i3];by_cases h1:a.toNat=104<;>by_cases h2:49<=b.toNat<;>by_cases h3:b.toNat<=54<;>simp[h1,h2,h3]<;>omega
 |a::b::c::l=>simp[Da];omega
def VM(i:Item):i.row=[.int .i64 i.node,.int .i64 i.AX,.str i.name,.bool i.Qi]:=rfl
def aO2(w:SW h bi b F si t av)(g:Gz b (n+4) o a)(ht:t.Sm)(s:Bj t.Aq av):FA h F 124 [.ptr (some (si,0))] (.tuple []) bi (b.Kt t):=by
 have p:=(aO1 (En b.Cs.Au).name);unfold BS.Kt;dsimp only;by_cases k:(En b.Cs.Au).AX=1
 .by_cases q:(En b.Cs.Au).name∈Da;.rw[show AA Da (En b.Cs.Au)=true by simp[AA,k,q],if_pos rfl];rw[Ag q] at p;have l0:=w.B3;obtain⟨h1,y,l,c,e⟩:=Jv w.pb g;have f:=w.after c e;have l1:=f.B3;have m:=nY c g.Cs;obtain⟨h2,x,r2,i,d⟩:=PD c g.Cs;have j:=f.after i d;have r:=j.B3;obtain⟨h3,B,A,v,u⟩:=E4 i g.Cs.Gs ht s;have z:=j.after v u;have l3:=z.B3;refine⟨_,_,?_,v,(e.trans d).trans u⟩;rw[Ac,WC,zl];simp only[abS,↓reduceIte,l0,l.call,l1,m.call,r2.call,r,A.call,VM,BA k,p.AQ rfl rfl]
  .rw[show AA Da (En b.Cs.Au)=false by simp[AA,k,q],if_neg (by simp)];rw[Ak q] at p;have l0:=w.B3;obtain⟨h1,y,l,c,e⟩:=Jv w.pb g;have f:=w.after c e;have l1:=f.B3;have m:=nY c g.Cs;obtain⟨h2,x,r2,i,d⟩:=E4 c g.Cs ht s;have j:=f.after i d;have r:=j.B3;refine⟨_,_,?_,i,e.trans d⟩;rw[Ac,WC,zl];simp only[abS,↓reduceIte,l0,l.call,l1,m.call,r2.call,VM,BA k,p.AQ rfl rfl]
 .rw[show AA Da (En b.Cs.Au)=false by simp[AA,k],if_neg (by simp)];have l0:=w.B3;obtain⟨h1,y,l,c,e⟩:=Jv w.pb g;have f:=w.after c e;have l1:=f.B3;have m:=nY c g.Cs;obtain⟨h2,x,r2,i,d⟩:=E4 c g.Cs ht s;have j:=f.after i d;have r:=j.B3;refine⟨_,_,?_,i,e.trans d⟩;rw[Ac,WC,zl];simp only[abS,↓reduceIte,l0,l.call,l1,m.call,r2.call,VM,k]
def aO3(w:SW h bi b F si t av)(g:Gz b (n+4) o a)(ht:t.Sm)(s:Bj t.Aq av):FA h F 125 [.ptr (some (si,0))] (.tuple []) bi (b.Kd t):=by have l0:=w.B3;obtain⟨h1,u,q,l,e⟩:=Ü w g ht s;have i:=w.after l e;have l1:=i.B3;obtain⟨r2,k,d⟩:=Ò l true;have f:=i.after k d;have r:=f.B3;obtain⟨p,j,c⟩:=LR k false;have m:=f.after j c;have l3:=m.B3;refine⟨_,_,?_,j,(e.trans d).trans c⟩;rw[Ac,xW,aDM];simp only[abS,q.call,l1,r2,r,p]
def aO4(w:SW h bi b F si t av)(g:Gz b (n+4) o a)(ht:t.Sm)(r:Bj t.Aq av):FA h F 137 [.ptr (some (si,0))] (.tuple []) bi (b.QD t):=by
 unfold BS.QD;dsimp only;by_cases l:b.FJ=0
 .by_cases d:b.Ql;.rw[if_neg (by simp[l]),if_pos d];have l0:=w.B3;have c:=Sy w.pb g;rw[Ag d] at c;obtain⟨h1,x,p,k,f⟩:=Jv w.pb g;have i:=w.after k f;have l1:=i.B3;obtain⟨h2,v,r2,j,e⟩:=E4 k g.Cs ht r;have m:=i.after j e;have q:=m.B3;refine⟨_,_,?_,j,f.trans e⟩;rw[Ac,TE,mn];simp only[abS,l0,c.call,p.call,l1,r2.call,q,BA l,ne_eq]
  .rw[if_neg (by simp[l]),if_neg d];have l0:=w.B3;have c:=Sy w.pb g;rw[Ak d] at c;obtain⟨h1,x,p,k,f⟩:=Jv w.pb g;have i:=w.after k f;have l1:=i.B3;obtain⟨h2,v,r2,j,e⟩:=E4 k g.Cs ht r;have m:=i.after j e;have q:=m.B3;obtain⟨z,u,s⟩:=iU j (b.Cs.MQ 1);have y:=m.after u s;have l3:=y.B3;refine⟨_,_,?_,u,(f.trans e).trans s⟩;rw[Ac,TE,mn];simp only[abS,l0,c.call,p.call,l1,r2.call,q,z,BA l,ne_eq]
 .by_cases d:b.Ql;.rw[if_neg (by simp[d]),if_pos d];have l0:=w.B3;have c:=Sy w.pb g;rw[Ag d] at c;obtain⟨h1,x,p,k,f⟩:=Jv w.pb g;have i:=w.after k f;have l1:=i.B3;obtain⟨h2,v,r2,j,e⟩:=E4 k g.Cs ht r;have m:=i.after j e;have q:=m.B3;refine⟨_,_,?_,j,f.trans e⟩;rw[Ac,TE,mn];simp only[abS,l0,c.call,p.call,l1,r2.call,q,l,ne_eq]
  .rw[if_pos ⟨l,d⟩];have l0:=w.B3;have c:=Sy w.pb g;rw[Ak d] at c;refine⟨_,_,?_,w.pb,.refl⟩;rw[Ac,TE,mn];simp only[abS,l0,c.call,l,ne_eq]
def aO5(w:SW h bi b F si t av)(g:Gz b (n+4*a+4) o a)(ht:t.Sm)(y:Bj t.Aq av):FA h F 138 [.ptr (some (si,0))] (.tuple []) bi (b.NR t):=by
 unfold BS.NR;dsimp only;cases x:b.has [aWV] with
 |true=>have g1:Gz (b.Dt aWV []) (n+4+4*a) o a:=g.Dt.dn (by omega);rw[if_pos rfl];have l0:=w.B3;have j:=TU w g aWV;rw[x] at j;obtain⟨h1,C,r,m,e⟩:=iZ w g aWV [];have i:=w.after m e;have l1:=i.B3;obtain⟨h2,B,r2,l,d⟩:=CZ m g1;have f:=i.after l d;have s:=f.B3;obtain⟨h3,D,q,k,c⟩:=E4 l g1.AO ht y;have p:=f.after k c;have l3:=p.B3;obtain⟨A,v,u⟩:=LR k false;have z:=p.after v u;have l4:=z.B3;refine⟨_,_,?_,v,((e.trans d).trans c).trans u⟩;rw[Ac,fP,Ő];simp only[abS,l0,j.call,r.call,l1,r2.call,s,q.call,l3,A]
 |false=>have g1:Gz b (n+4+4*a) o a:=g.dn (by omega);rw[if_neg (by simp)];have l0:=w.B3;have j:=TU w g aWV;rw[x] at j;obtain⟨h1,C,r,m,e⟩:=CZ w.pb g1;have i:=w.after m e;have l1:=i.B3;obtain⟨h2,B,r2,l,d⟩:=E4 m g1.AO ht y;have f:=i.after l d;have s:=f.B3;obtain⟨q,k,c⟩:=LR l false;have p:=f.after k c;have l3:=p.B3;refine⟨_,_,?_,k,(e.trans d).trans c⟩;rw[Ac,fP,Ő];simp only[abS,l0,j.call,r.call,l1,r2.call,s,q]
def aFS(w:SW h bi b F si t av)(g:Gz b (n+4*a+5) o a)(ht:t.Sm)(l:Bj t.Aq av):FA h F 126 [.ptr (some (si,0))] (.tuple []) bi (b.Æ t):=by have g1:Gz b (n+5+4*a) o a:=g.dn (by omega);have l0:=w.B3;obtain⟨h1,q,k,i,d⟩:=CZ w.pb g1;have e:=w.after i d;have l1:=e.B3;obtain⟨h2,p,r2,f,c⟩:=Ì i g1.AO ht l;have j:=e.after f c;have m:=j.B3;refine⟨_,_,?_,f,d.trans c⟩;rw[Ac,xX,aDN];simp only[abS,l0,k.call,l1,r2.call]
def aFT(w:PB h bi b F)(g:Gz b n o a)(x:Int):∃r,FA h F 209 [.ptr (some (bi,3)),.int .i64 x] r bi {b with AW:=BS.JD b.AW x}:=by
 obtain⟨i,f,c,tt,G,w,hc,rfl⟩:=w;have fE:=g.rm.AW;have l3:=w.l3;obtain⟨fs,Lx,Ws⟩:=hc;have IZ:fs.length=b.AW.length:=by rw[<-Lx,Ao]
 have d:=f41 w.my Ws (by omega) x;rw[YG,Lx] at d;by_cases k:Fo x b.AW<0
 .have e:BS.JD b.AW x=b.AW:=by unfold BS.JD;rw[if_pos k]
  refine⟨ff,h,BN bi G,?_,⟨i,f,c,tt,G,?_,⟨fs,?_,Ws⟩,rfl⟩,.refl⟩;.rw[Ac,gI,š];simp only[abS,d.call,BA k]
  .rw[e];exact w
  .rw[e];exact Lx
 .have hlt:(Fo x b.AW).toNat<fs.length:=by obtain⟨p,hp,e,_⟩:=Ks (n:=x) (l:=b.AW) (by omega);omega
  obtain⟨u,r2,hu⟩:=aIq (h:=h) Ws hlt (by omega);have he:((Fo x b.AW).toNat:Int)=Fo x b.AW:=by omega
  rw[he] at r2;have w':=w.TJ (u:=u) (l:=BS.JD b.AW x);have iy:Ec (BS.JD b.AW x) u:=⟨Bs fs (Fo x b.AW).toNat,by unfold BS.JD;rw[if_neg k,<-Lx];unfold Bs;simp[Hr,LV],hu⟩;refine⟨.bool true,_,_,?_,⟨i,f,u,tt,G,w',iy,rfl⟩,Cn⟩;rw[Ac,gI,š];simp only[abS,d.call,k,l3,r2.call,w.st (k:=3) (v0:=c) rfl (EV.cells hu)]
def aO6(w:SW h bi b F si t av)(g:Gz b (n+4*a+5) o a)(ht:t.Sm)(y:Bj t.Aq av):FA h F 127 [.ptr (some (si,0))] (.tuple []) bi (b.BP t):=by have g1:Gz b (n+1+4+4*a) o a:=g.dn (by omega);have l0:=w.B3;obtain⟨h1,B,v,q,f⟩:=CZ w.pb g1;have k:=w.after q f;have l1:=k.B3;obtain⟨h2,A,r2,p,e⟩:=E4 q g1.AO ht y;have j:=k.after p e;have x:=j.B3;obtain⟨h3,z,u,m,d⟩:=Ï p (g1.AO.C6 ht);have i:=j.after m d;have l3:=i.B3;obtain⟨s,l,c⟩:=LR m false;have r:=i.after l c;have l4:=r.B3;refine⟨_,_,?_,l,((f.trans e).trans d).trans c⟩;rw[Ac,xY,t127];simp only[abS,l0,v.call,l1,r2.call,x,u.call,l3,s]
def aO7(w:SW h bi b F si t av)(g:Gz b (n+8*(4*(o+a+8)+10)+8*a+100) o a)(ht:t.Sm)(x:Bj t.Aq av):FA h F 140 [.ptr (some (si,0))] (.tuple []) bi (b.ZT t):=by
 have g0:Gz b (n+5+4*(a+8)+8*(4*(o+a+8)+10)+4*a) o a:=g.dn (by omega);have g1:=g0.AO;unfold BS.ZT;dsimp only;cases v:b.AO.has [aXk] with
 |true=>simp only[BM];have l0:=w.B3;obtain⟨h1,C,l,j,e⟩:=CZ w.pb g0;have c:=w.after j e;have l1:=c.B3;have f:=TU c g1 aXk;rw[v] at f;obtain⟨h2,B,r2,i,d⟩:=Y1 j g1 aXk;have k:=c.after i d;have u:=k.B3;obtain⟨h3,G,A,s,p⟩:=CZ i g1.Du;have q:=k.after s p;have l3:=q.B3;obtain⟨D,E,z,r,m⟩:=Ì s g1.Du.AO ht x;have y:=q.after r m;have l4:=y.B3;refine⟨_,_,?_,r,((e.trans d).trans p).trans m⟩;rw[Ac,fR,Œ];simp only[abS,l0,l.call,l1,f.call,r2.call,u,A.call,l3,z.call]
 |false=>simp only[Cp,DU];have l0:=w.B3;obtain⟨h1,C,l,j,e⟩:=CZ w.pb g0;have c:=w.after j e;have l1:=c.B3;have f:=TU c g1 aXk;rw[v] at f;obtain⟨h2,B,r2,i,d⟩:=Ì j (g1.dn (n':=n+5) (by omega)) ht x;have k:=c.after i d;have u:=k.B3;refine⟨_,_,?_,i,e.trans d⟩;rw[Ac,fR,Œ];simp only[abS,l0,l.call,l1,f.call,r2.call]
def aJJ(w:PB h bi b F)(g:Gz b n o a):∃x r u,Bg h none (.ptr (some (bi,0)))=some (.ptr (some (x,0)))/\Cj cx 55 [.ptr (some (x,0)),.int .i64 b.CB] h (.tuple [.agg r,I 0]) (h++u)/\r.length=13/\r.getD 10 .nilIface= .bool (b.a.nd b.CB).DH:=by obtain⟨f,i,c,tt,G,w,hc,rfl⟩:=w;have l0:=w.l0;obtain⟨n',m',ps,e⟩:=w.w.pa;obtain⟨r,u,d,K,V,rfl,k,j⟩:=aFi (x:=b.CB) e g.rm.WB (g.rm.WB.Bv g.ok.ok _);rw[if_pos g.ok.CB.1] at d;exact⟨f,_,u,l0,d,rfl,rfl⟩
def aO8(w:SW h bi b F si t av)(g:Gz b (n+4) o a)(ht:t.Sm)(C:Bj t.Aq av):FA h F 141 [.ptr (some (si,0))] (.tuple []) bi (b.Sw t):=by
 obtain⟨x,r,u,lt,rn,J8,MH⟩:=aJJ w.pb g;have A:=w.B3;have E:SW (h++u) bi b F si t av:=w.after w.pb.J9 ⟨by simp,λi hi _=>Ah hi,λ_ hf=> .inl hf⟩;have D:Ey h F (h++u) F:=⟨by simp,λi hi _=>Ah hi,λ_ hf=> .inl hf⟩;have key:∀(w:SW (h++u) bi b F si t av),∃h' F',W cx (B7 cx 141 [.ptr (some (si,0))]) (λx vs h1=>x= .ret/\vs=[.tuple []]/\h1=h') h/\PB h' bi (b.Sw t) F'/\Ey (h++u) F h' F':=by
  intro w;unfold BS.Sw;dsimp only;cases B:(b.a.nd b.CB).DH with
  |true=>rw[B] at MH;simp only[BM];have l0:=w.B3;obtain⟨h1,I,s,m,e⟩:=E4 w.pb g ht C;have j:=w.after m e;have l1:=j.B3;obtain⟨r2,l,d⟩:=LR m false;have f:=j.after l d;have v:=f.B3;obtain⟨q,k,c⟩:=Gk l 9;have p:=f.after k c;have l3:=p.B3;refine⟨_,_,?_,k,(e.trans d).trans c⟩;rw[fS,œ];simp only[abS,↓reduceIte,A,lt,rn.call,J8,MH,l0,s.call,l1,r2,v,q]
  |false=>rw[B] at MH;simp only[Cp,DU];have l0:=w.B3;obtain⟨h1,I,s,m,e⟩:=Jv w.pb g;have j:=w.after m e;have l1:=j.B3;obtain⟨h2,J,r2,l,d⟩:=E4 m g.Cs ht C;have f:=j.after l d;have v:=f.B3;obtain⟨q,k,c⟩:=LR l false;have p:=f.after k c;have l3:=p.B3;obtain⟨H,z,y⟩:=Gk k 9;have G:=p.after z y;have l4:=G.B3;refine⟨_,_,?_,z,((e.trans d).trans c).trans y⟩;rw[fS,œ];simp only[abS,↓reduceIte,A,lt,rn.call,J8,MH,l0,s.call,l1,r2.call,v,q,l3,H]
 obtain⟨h',F',r',p',x'⟩:=key E;exact⟨h',F',Ac.2 r',p',D.trans x'⟩
end
section
variable{h h':Ae}{bi si:Nat}{b b':BS}{F F':Nat->Prop}{n o a:Nat}{t:Dv}{av:Aa}
def Ý(h:Ae)(F:Nat->Prop)(si:Nat)(f:FuncId)(args:List Aa)(r:Aa)(bi:Nat)(b':BS):Prop:=∃h' F',Cj cx f args h r h'/\PB h' bi b' F'/\Ey h (λi=>F i\/i=si) h' (λi=>F' i\/i=si)
def Ey.oA(x:Ey h F h' F'):Ey h (λi=>F i\/i=si) h' (λi=>F' i\/i=si):=
 ⟨x.len,λi hi hn=>x.old i hi λhf=>hn (.inl hf),λi hi=>by
  rcases hi with hi|hi
  .rcases x.BN i hi with h1|h1
   .exact .inl (.inl h1)
   .exact .inr h1
  .exact .inl (.inr hi)⟩
def FA.Mt{f:FuncId}{args:List Aa}{r:Aa}(d:FA h F f args r bi b'):Ý h F si f args r bi b':=by obtain⟨h1,i,e,g,c⟩:=d;exact⟨h1,i,e,g,c.oA⟩
def aFU(i:Item)(s:Ad)(h:Ae):Cj cx 204 [.agg i.row,.str s] h (.bool (AA [s] i)) h:=by
 rw[Ac,zJ,aEm];simp only[Ce,VM];refine⟨λh1=>?_,λh1=>?_⟩;.simp[AA,h1]
 .simp[AA,h1]
def Þ(w:SW h bi b F si t av):Cj cx 206 [.ptr (some (si,0))] h (.tuple [.int .i64 (DT b.Au 1).node,.bool b.L9]) h:=by
 have l0:=w.B3;have d:=Ð w.pb 1;have r2:=VK w.pb;have c:=aFU (DT b.Au 1) aWX h;rw[VM] at d c;rw[Ac,zK,aEn];simp only[abS,l0,d.call,r2.call,c.call];refine⟨λh1=>?_,λh1=>?_⟩
 .have:2<=b.Au.length:=by omega
  simp[BS.L9,this]
 .have:¬2<=b.Au.length:=by omega
  simp[BS.L9,this]
def aFV:KI aYQ wDD:=NB (by decide+kernel)
def aFW:KI [108,105] [[108,105]]:=NB (by decide+kernel)
def fw:KI aYe ZS:=NB (by decide+kernel)
def aFX:KI aW7 Da:=NB (by decide+kernel)
def aO9(w:SW h bi b F si t av)(g:Gz b (n+4) o a)(ht:t.Sm)(I:Bj t.Aq av):FA h F 133 [.ptr (some (si,0))] (.tuple []) bi (b.YS t):=by
 have ho:=g.rm.Au;obtain⟨H,J,B⟩:=LR w.pb false;have k:=w.after J B;have l0:=w.B3;have l1:=k.B3;have g1:Gz {b with fs:=false} (n+4) o a:=g.eq rfl rfl rfl rfl rfl;have ln:=VK k.pb;have PI:Ev cx 133 [.ptr (some (si,0))] h λr h'=>r= .tuple []/\∃F',PB h' bi (b.YS t) F'/\Ey h F h' F':=by
  unfold Ev BS.YS;generalize{b with fs:=false}=c at*;rw[yA,aDP];have K:(c.Au.length:Int)<=900000000:=by have:=g1.rm.Au;omega
  by_cases A:t.name=[108,105]
  .obtain⟨ws,ÿ⟩:∃ws,ws=(if t.name=[108,105] then[[108,105]] else wDD):=⟨_,rfl⟩;have hw:KI [108,105] ws:=by rw[ÿ,if_pos A];exact aFW
   rw[<-ÿ];clear ÿ;simp only[abS,l0,l1,H,BA A,ne_eq,ln.call,D1 (show -9223372036854775808<=(c.Au.length:Int)-1 by omega) (show(c.Au.length:Int)-1<9223372036854775808 by omega)];generalize put h bi 14 ff=hs at*;refine EK (i:=0) (λn:Nat=>[.int .i64 ((n:Int)-1)]) (λn h1=>n<=c.Au.length/\c.Au.reverse.find? (BS.Jg ws)=(c.Au.take n).reverse.find? (BS.Jg ws)/\h1=hs) (λn=>n) (λn h1=>∃F',PB h1 bi (c.HP ws) F'/\Ey hs F h1 F') c.Au.length rfl ⟨Ab _,by rw[Bf],rfl⟩ ?_ ?_
   .rintro n h1 ⟨hn,ha,rfl⟩;cases n with
    |zero=>
     have e:c.HP ws=c:=by unfold BS.HP;rw[ha];rfl
     simp only[abS,show¬(0:Int)<=((0:Nat):Int)-1 by omega];exact .Jd 0 rfl ⟨F,by rw[e];exact k.pb,.refl⟩
    |succ n=>
     have hlt:n<c.Au.length:=by omega
     have i1:((n+1:Nat):Int)-1=(n:Int):=by omega
     have r2:=Ð k.pb (n:Int);rw[HD hlt] at r2;rw[TK hlt,H5] at ha;generalize hi:c.Au[n]=i at*;rw[VM] at r2;have l:=tR hw i.name;have p:=tR fw i.name;have f:=Ŭ i.AX i.name;have sub:=D1 (show -9223372036854775808<=(n:Int)-1 by omega) (show(n:Int)-1<9223372036854775808 by omega);by_cases s:AA ws i=true
     .have d:i.AX=1/\i.name∈ws:=by simpa[AA] using s
      rw[Ag d.2] at l;obtain⟨h2,z,v,x,u⟩:=iZ k g1 i.name i.name;have e:c.HP ws=c.Dt i.name i.name:=by unfold BS.HP;rw[ha];simp[BS.Jg,s]
      simp only[abS,↓reduceIte,l1,i1,show(0:Int)<=(n:Int) by omega,r2.call,BA d.1,l.AQ rfl rfl,v.call];exact .Jd (n+1) (by rw[i1]) ⟨z,by rw[e];exact x,u⟩
     .have m:AA ws i=false:=by simpa using s
      have E:BS.Jg ws i=(AL i&& !(AA ZS i)):=by simp[BS.Jg,m]
      rw[E] at ha;have stop:AL i=true->AA ZS i=false->c.HP ws=c:=λh1 h2=>by unfold BS.HP;rw[ha,h1,h2];simp[m]
      have go:(AL i&& !(AA ZS i))=false->c.Au.reverse.find? (BS.Jg ws)=(c.Au.take n).reverse.find? (BS.Jg ws):=λh1=>by rw[ha,h1]
      by_cases d:i.AX=1
      .have D:i.name∉ws:=λh=>s (by simp[AA,d,h]);rw[Ak D] at l;by_cases j:AL i=true
       .have i5:Dj i.AX i.name=true:=j;rw[i5] at f;by_cases q:i.name∈ZS;.rw[Ag q] at p;simp only[abS,↓reduceIte,l1,i1,show(0:Int)<=(n:Int) by omega,r2.call,BA d,l.AQ rfl rfl,p.AQ rfl rfl,f.AQ rfl rfl,sub];exact .next n rfl ⟨by omega,go (by simp[AA,d,q]),rfl⟩ (by omega)
        .rw[Ak q] at p;simp only[abS,↓reduceIte,l1,i1,show(0:Int)<=(n:Int) by omega,r2.call,BA d,l.AQ rfl rfl,p.AQ rfl rfl,f.AQ rfl rfl,sub];exact .Jd (n+1) (by rw[i1]) ⟨F,by rw[stop j (by simp[AA,q])];exact k.pb,.refl⟩
       .have i5:Dj i.AX i.name=false:=by simpa[AL] using j
        rw[i5] at f;simp only[abS,↓reduceIte,l1,i1,show(0:Int)<=(n:Int) by omega,r2.call,BA d,l.AQ rfl rfl,f.AQ rfl rfl,sub];exact .next n rfl ⟨by omega,go (by simp[show AL i=false from i5]),rfl⟩ (by omega)
      .by_cases j:AL i=true;.have i5:Dj i.AX i.name=true:=j;rw[i5] at f;simp only[abS,↓reduceIte,l1,i1,show(0:Int)<=(n:Int) by omega,r2.call,d,f.AQ rfl rfl,sub];exact .Jd (n+1) (by rw[i1]) ⟨F,by rw[stop j (by simp[AA,d])];exact k.pb,.refl⟩
       .have i5:Dj i.AX i.name=false:=by simpa[AL] using j
        rw[i5] at f;simp only[abS,↓reduceIte,l1,i1,show(0:Int)<=(n:Int) by omega,r2.call,d,f.AQ rfl rfl,sub];exact .next n rfl ⟨by omega,go (by simp[show AL i=false from i5]),rfl⟩ (by omega)
   .rintro n h1 ⟨z,C,y⟩;obtain⟨h3,G,v,x,u⟩:=Ü (k.after C y) g1.HP ht I;simp only[Ce,v.call];exact⟨_,rfl,rfl,G,x,(B.trans y).trans u⟩
  .obtain⟨ws,ÿ⟩:∃ws,ws=(if t.name=[108,105] then[[108,105]] else wDD):=⟨_,rfl⟩;have hw:KI aYQ ws:=by rw[ÿ,if_neg A];exact aFV
   rw[<-ÿ];clear ÿ;simp only[abS,l0,l1,H,A,ne_eq,ln.call,D1 (show -9223372036854775808<=(c.Au.length:Int)-1 by omega) (show(c.Au.length:Int)-1<9223372036854775808 by omega)];generalize put h bi 14 ff=hs at*;refine EK (i:=0) (λn:Nat=>[.int .i64 ((n:Int)-1)]) (λn h1=>n<=c.Au.length/\c.Au.reverse.find? (BS.Jg ws)=(c.Au.take n).reverse.find? (BS.Jg ws)/\h1=hs) (λn=>n) (λn h1=>∃F',PB h1 bi (c.HP ws) F'/\Ey hs F h1 F') c.Au.length rfl ⟨Ab _,by rw[Bf],rfl⟩ ?_ ?_
   .rintro n h1 ⟨hn,ha,rfl⟩;cases n with
    |zero=>
     have e:c.HP ws=c:=by unfold BS.HP;rw[ha];rfl
     simp only[abS,show¬(0:Int)<=((0:Nat):Int)-1 by omega];exact .Jd 0 rfl ⟨F,by rw[e];exact k.pb,.refl⟩
    |succ n=>
     have hlt:n<c.Au.length:=by omega
     have i1:((n+1:Nat):Int)-1=(n:Int):=by omega
     have r2:=Ð k.pb (n:Int);rw[HD hlt] at r2;rw[TK hlt,H5] at ha;generalize hi:c.Au[n]=i at*;rw[VM] at r2;have l:=tR hw i.name;have p:=tR fw i.name;have f:=Ŭ i.AX i.name;have sub:=D1 (show -9223372036854775808<=(n:Int)-1 by omega) (show(n:Int)-1<9223372036854775808 by omega);by_cases s:AA ws i=true
     .have d:i.AX=1/\i.name∈ws:=by simpa[AA] using s
      rw[Ag d.2] at l;obtain⟨h2,z,v,x,u⟩:=iZ k g1 i.name i.name;have e:c.HP ws=c.Dt i.name i.name:=by unfold BS.HP;rw[ha];simp[BS.Jg,s]
      simp only[abS,↓reduceIte,l1,i1,show(0:Int)<=(n:Int) by omega,r2.call,BA d.1,l.AQ rfl rfl,v.call];exact .Jd (n+1) (by rw[i1]) ⟨z,by rw[e];exact x,u⟩
     .have m:AA ws i=false:=by simpa using s
      have E:BS.Jg ws i=(AL i&& !(AA ZS i)):=by simp[BS.Jg,m]
      rw[E] at ha;have stop:AL i=true->AA ZS i=false->c.HP ws=c:=λh1 h2=>by unfold BS.HP;rw[ha,h1,h2];simp[m]
      have go:(AL i&& !(AA ZS i))=false->c.Au.reverse.find? (BS.Jg ws)=(c.Au.take n).reverse.find? (BS.Jg ws):=λh1=>by rw[ha,h1]
      by_cases d:i.AX=1
      .have D:i.name∉ws:=λh=>s (by simp[AA,d,h]);rw[Ak D] at l;by_cases j:AL i=true
       .have i5:Dj i.AX i.name=true:=j;rw[i5] at f;by_cases q:i.name∈ZS;.rw[Ag q] at p;simp only[abS,↓reduceIte,l1,i1,show(0:Int)<=(n:Int) by omega,r2.call,BA d,l.AQ rfl rfl,p.AQ rfl rfl,f.AQ rfl rfl,sub];exact .next n rfl ⟨by omega,go (by simp[AA,d,q]),rfl⟩ (by omega)
        .rw[Ak q] at p;simp only[abS,↓reduceIte,l1,i1,show(0:Int)<=(n:Int) by omega,r2.call,BA d,l.AQ rfl rfl,p.AQ rfl rfl,f.AQ rfl rfl,sub];exact .Jd (n+1) (by rw[i1]) ⟨F,by rw[stop j (by simp[AA,q])];exact k.pb,.refl⟩
       .have i5:Dj i.AX i.name=false:=by simpa[AL] using j
        rw[i5] at f;simp only[abS,↓reduceIte,l1,i1,show(0:Int)<=(n:Int) by omega,r2.call,BA d,l.AQ rfl rfl,f.AQ rfl rfl,sub];exact .next n rfl ⟨by omega,go (by simp[show AL i=false from i5]),rfl⟩ (by omega)
      .by_cases j:AL i=true;.have i5:Dj i.AX i.name=true:=j;rw[i5] at f;simp only[abS,↓reduceIte,l1,i1,show(0:Int)<=(n:Int) by omega,r2.call,d,f.AQ rfl rfl,sub];exact .Jd (n+1) (by rw[i1]) ⟨F,by rw[stop j (by simp[AA,d])];exact k.pb,.refl⟩
       .have i5:Dj i.AX i.name=false:=by simpa[AL] using j
        rw[i5] at f;simp only[abS,↓reduceIte,l1,i1,show(0:Int)<=(n:Int) by omega,r2.call,d,f.AQ rfl rfl,sub];exact .next n rfl ⟨by omega,go (by simp[show AL i=false from i5]),rfl⟩ (by omega)
   .rintro n h1 ⟨z,C,y⟩;obtain⟨h3,G,v,x,u⟩:=Ü (k.after C y) g1.HP ht I;simp only[Ce,v.call];exact⟨_,rfl,rfl,G,x,(B.trans y).trans u⟩
 obtain⟨r,h',hr,rfl,F',p',x'⟩:=PI.ret;exact⟨h',F',hr,p',x'⟩
end
section
variable{h h':Ae}{bi si:Nat}{b b':BS}{F F':Nat->Prop}{n o a:Nat}{t:Dv}{av:Aa}
def aFY(w:PB h bi b F)(g:Gz b n o a)(nm:Ad):Cj cx 208 [.ptr (some (bi,3)),.str nm] h (.int .i64 (D7 nm b.AW)) h/\(0<=D7 nm b.AW->∃v p,Bg h none (.ptr (some (bi,3)))=some v/\Az (.F0 3) [v,.int .i64 (D7 nm b.AW)]=some p/\∃q,Az (.FN 0) [p]=some q/\Bg h none q=some (.int .i64 (b.AW.getD (D7 nm b.AW).toNat B2.zero).node)):=by
 obtain⟨j,i,c,tt,G,w,hc,rfl⟩:=w;have fE:=g.rm.AW;obtain⟨fs,Lx,Ws⟩:=hc;have IZ:fs.length=b.AW.length:=by rw[<-Lx,Ao]
 have d:=aIm w.my Ws (by omega) nm;rw[db,Lx] at d;refine⟨d,λh0=>?_⟩;obtain⟨k,e,f⟩:=YN h0;rw[f,Bz];have hk:k<fs.length:=by omega
 have ea:=Br.Dl (k:= .i64) Ws hk;have hg:b.AW.getD k B2.zero=fs[k].c:=by rw[AG,<-Lx,CE,An hk];rfl
 exact⟨c,_,w.l3,ea,_,rfl,by rw[hg];rfl⟩
def aPa(w:SW h bi b F si t av)(g:Gz b (n+8*(4*(o+8)+10)+4*(a+8)+5) o a)(ht:t.Sm)(y:Bj t.Aq av):FA h F 139 [.ptr (some (si,0))] (.tuple []) bi (b.iP t):=by
 obtain⟨r,E⟩:=aFY w.pb g [97];unfold BS.iP BS.RS;dsimp only;by_cases x:D7 [97] b.AW<0;.rw[if_pos x];have l0:=w.B3;obtain⟨h1,K,i,d,c⟩:=aFS w (g.dn (n':=n+4*a+5) (by omega)) ht y;have e:=w.after d c;have l1:=e.B3;refine⟨_,_,?_,d,c⟩;rw[Ac,fQ,ő];simp only[Ce,Nat.reduceLeDiff,↓reduceIte,B6,eI,l0,i.call,l1,r.call,show¬(0:Int)<=D7 [97] b.AW by omega]
 .rw[if_neg x];obtain⟨v,p,J,I,q,H,G⟩:=E (by omega);have g0:Gz b (n+4*(a+8)+5+8*(4*(o+8)+10)) o a:=g.dn (by omega);generalize(b.AW.getD (D7 [97] b.AW).toNat B2.zero).node=nd at*;have l0:=w.B3;obtain⟨h1,K,i,d,c⟩:=Y1 w.pb g0 [97];have e:=w.after d c;have l1:=e.B3;obtain⟨_,h2,O,r2,u,l⟩:=aFT d g0.Du nd;have m:=e.after u l;have D:=m.B3;obtain⟨_,h3,N,B,C,k⟩:=Y2 u (g0.Du.sub (lo:=(b.Du [97]).Au) (lc:=BS.JD (b.Du [97]).AW nd) (lt:=(b.Du [97]).tm) (BK _) LP (Ab _)) nd;have f:=m.after C k;have l3:=f.B3;obtain⟨L,M,A,s,j⟩:=aFS f (g0.Du.sub (lo:=B9 nd (b.Du [97]).Au) (lc:=BS.JD (b.Du [97]).AW nd) (lt:=(b.Du [97]).tm) Eo LP (Ab _)) ht y;have z:=f.after s j;have l4:=z.B3;refine⟨_,_,?_,s,((c.trans l).trans k).trans j⟩;rw[Ac,fQ,ő];simp only[Ce,Nat.reduceLeDiff,↓reduceIte,B6,eI,l0,i.call,l1,r2.call,D,B.call,l3,A.call,l4,r.call,show(0:Int)<=D7 [97] b.AW by omega,J,I,H,G]
def oB{x:A9}{l:List A9}:BS.QE (x::l)=if x.name=aX5 then decide (ET x.value=aXT) else BS.QE l:=by
 unfold BS.QE;rw[H5];by_cases h:x.name=aX5;.simp[h]
 .simp[h]
def aPb(ht:t.Sm)(f:Bj t.Aq av)(h:Ae):Cj cx 201 [.agg (Ct t av)] h (.bool (BS.QE t.Aq)) h:=by
 have g:AN=140737488355328:=rfl;have JG:Br 3 (t.Aq.map A9.row) av:=f;have e:=Br.Fk JG;have hb:=ht.Aq.1;have hcl:ET aXT=aXT:=Qj (by decide);rw[Ac,zG,aEj];simp only[Ce,e];refine BO (λn:Nat=>[ff,.int .i64 (n:Int)]) (λn h1=>n<=t.Aq.length/\h1=h/\BS.QE t.Aq=BS.QE (t.Aq.drop n)) (λn=>t.Aq.length-n) 0 rfl ⟨AU _,rfl,rfl⟩ ?_;rintro n h1 ⟨hn,rfl,ha⟩;rcases A6 n t.Aq.length with hlt|HK
 .have d:=Br.Dl (k:= .i64) JG hlt;have JI:=(ht.Aq.2 _ (Ay hlt)).2;have c:=f189 t.Aq[n].value aXT (by omega) (by decide);rw[hcl] at c;rw[Ap hlt,oB] at ha;rw[A9.row] at d;simp only[abS,Nat.reduceLeDiff,↓reduceIte,show(n:Int)<(t.Aq.length:Int) by omega,d,c.AQ rfl rfl,CI (show n<9223372036854775807 by omega)];refine⟨λh2=>?_,λh2=>?_⟩;.rw[ha,if_pos h2]
  .rw[if_neg h2] at ha;exact Bk.next (n+1) rfl ⟨hlt,rfl,ha⟩ (by omega)
 .rw[AH HK] at ha;simp only[abS,show¬(n:Int)<(t.Aq.length:Int) by omega,ha];rfl
def SW.aAp(w:SW h bi b F si t av)(nm:Ad):CR h 1 (.ptr (some (si,2))) (.str nm)=some (put h si 2 (.str nm))/\SW (put h si 2 (.str nm)) bi b F si {t with name:=nm} av/\Ey h (λi=>F i\/i=si) (put h si 2 (.str nm)) (λi=>F i\/i=si):=by have hs:At h si 2 (.str t.name):=⟨_,w.sc,rfl⟩;refine⟨hs.store (u:= .str nm) rfl,⟨w.pb.Ep λi hi=>CW λe=>w.no (e▸hi),?_,w.no⟩,⟨by rw[Mm];exact Ab _,λi _ hn=>CW λe=>hn (.inr e),λ_ h=> .inl h⟩⟩;rw[J2 w.sc];rfl
def aJL(w:SW h bi b F si t av)(g:Gz b (n+4*a+4) o a)(ht:t.Sm)(v:Bj t.Aq av):Ý h F si 128 [.ptr (some (si,0))] (.tuple []) bi (b.empty t):=by
 have D:Gz b (n+4) o a:=g.dn (by omega);have g1:Gz b (n+4+4*a) o a:=g.dn (by omega);unfold BS.empty;by_cases r:t.name=[104,114];.rw[if_pos r];refine FA.Mt ?_;have l0:=w.B3;obtain⟨h1,y,p,i,d⟩:=Jv w.pb D;have f:=w.after i d;have l1:=f.B3;obtain⟨h2,B,r2,e,c⟩:=tT i D.Cs ht v;have k:=f.after e c;have q:=k.B3;obtain⟨u,m,l⟩:=LR e false;have s:=k.after m l;have l3:=s.B3;refine⟨_,_,?_,m,(d.trans c).trans l⟩;rw[Ac,Mq,ZK];simp only[abS,l0,p.call,l1,r2.call,q,u,BA r]
 rw[if_neg r];by_cases j:t.name∈aAi
 .rw[if_pos j];refine FA.Mt ?_;have l0:=w.B3;obtain⟨h1,y,p,i,d⟩:=tT w.pb D ht v;have f:=w.after i d;have l1:=f.B3;obtain⟨r2,e,c⟩:=LR i b.fs;have k:=f.after e c;have q:=k.B3;simp only[aAi,Aw,DY,LW] at j;by_cases A:t.name=aYz
  .skip
   refine⟨_,_,?_,e,d.trans c⟩;rw[Ac,Mq,ZK];simp only[abS,l0,p.call,l1,r2,r,BA A]
  by_cases C:t.name=aYi;.refine⟨_,_,?_,e,d.trans c⟩;rw[Ac,Mq,ZK];simp only[abS,l0,p.call,l1,r2,r,A,BA C]
  .have I:t.name=aYA:=by simpa[A,C] using j
   refine⟨_,_,?_,e,d.trans c⟩;rw[Ac,Mq,ZK];simp only[abS,l0,p.call,l1,r2,r,A,C,BA I]
 rw[if_neg j];simp only[aAi,Aw,DY,LW,not_or] at j;by_cases x:t.name=aYq
 .rw[if_pos x];refine FA.Mt ?_;cases kf:b.fs with
  |true=>have l0:=w.B3;obtain⟨h1,y,p,i,d⟩:=CZ w.pb g1;have f:=w.after i d;have l1:=f.B3;have G:=aPb ht v h1;obtain⟨h2,B,r2,e,c⟩:=tT i g1.AO ht v;have k:=f.after e c;have q:=k.B3;obtain⟨u,m,l⟩:=LR e (BS.QE t.Aq);have s:=k.after m l;have l3:=s.B3;rw[kf] at l0;refine⟨_,_,?_,m,(d.trans c).trans l⟩;rw[Ac,Mq,ZK];simp only[abS,l0,p.call,l1,G.call,r2.call,q,u,r,j.1,j.2.1,j.2.2,BA x]
  |false=>have l0:=w.B3;obtain⟨h1,y,p,i,d⟩:=CZ w.pb g1;have f:=w.after i d;have l1:=f.B3;obtain⟨h2,B,r2,e,c⟩:=tT i g1.AO ht v;have k:=f.after e c;have q:=k.B3;obtain⟨u,m,l⟩:=LR e false;have s:=k.after m l;have l3:=s.B3;rw[kf] at l0;refine⟨_,_,?_,m,(d.trans c).trans l⟩;rw[Ac,Mq,ZK];simp only[abS,l0,p.call,l1,r2.call,q,u,r,j.1,j.2.1,j.2.2,BA x]
 rw[if_neg x];by_cases z:t.name=aYu;.rw[if_pos z];have H:=w.B3;obtain⟨s0,w,E⟩:=w.aAp aYH;have I3:({t with name:=aYH}:Dv).Sm:=ht.rn (by decide);have l0:=w.B3;obtain⟨h1,y,p,i,d⟩:=CZ w.pb g1;have f:=w.after i d;have l1:=f.B3;obtain⟨h2,B,r2,e,c⟩:=tT i g1.AO I3 v;have k:=f.after e c;have q:=k.B3;obtain⟨u,m,l⟩:=LR e false;have s:=k.after m l;have l3:=s.B3;refine⟨_,_,?_,m,E.trans ((d.trans c).trans l).oA⟩;rw[Ac,Mq,ZK];simp only[abS,H,r,j.1,j.2.1,j.2.2,x,BA z,s0,l0,p.call,l1,r2.call,q,u]
 .rw[if_neg z];refine FA.Mt ?_;have l0:=w.B3;obtain⟨h1,y,p,i,d⟩:=CZ w.pb g1;have f:=w.after i d;have l1:=f.B3;obtain⟨h2,B,r2,e,c⟩:=tT i g1.AO ht v;have k:=f.after e c;have q:=k.B3;obtain⟨u,m,l⟩:=LR e false;have s:=k.after m l;have l3:=s.B3;refine⟨_,_,?_,m,(d.trans c).trans l⟩;rw[Ac,Mq,ZK];simp only[abS,l0,p.call,l1,r2.call,q,u,r,j.1,j.2.1,j.2.2,x,z]
end
section
variable{h h':Ae}{bi si:Nat}{b b':BS}{F F':Nat->Prop}{n o a:Nat}{t:Dv}{av:Aa}
def aPc(w:SW h bi b F si t av)(g:Gz b (n+4*a+4) o a)(ht:t.Sm)(v:Bj t.Aq av):FA h F 130 [.ptr (some (si,0))] (.tuple []) bi (b.ZU t):=by
 have z:Gz b (n+4) o a:=g.dn (by omega);have g1:Gz b.Cs (n+4+4*a) o a:=g.Cs.dn (by omega);unfold BS.ZU;by_cases m:t.name=aXM;.rw[if_pos m];have l0:=w.B3;obtain⟨h1,B,l,e,d⟩:=Ü w z ht v;have f:=w.after e d;have l1:=f.B3;obtain⟨r2,j,i⟩:=aOQ e 5;have k:=f.after j i;have s:=k.B3;refine⟨_,_,?_,j,d.trans i⟩;rw[Ac,Rd,sT];simp only[abS,l0,l.call,l1,r2,BA m]
 rw[if_neg m];by_cases p:t.name=aXR;.rw[if_pos p];have l0:=w.B3;obtain⟨h1,B,l,e,d⟩:=Y0 w.pb z ht v 2;have f:=w.after e d;have l1:=f.B3;obtain⟨r2,j,i⟩:=Ò e true;have k:=f.after j i;have s:=k.B3;obtain⟨A,r,q⟩:=LR j false;have x:=k.after r q;have l3:=x.B3;refine⟨_,_,?_,r,(d.trans i).trans q⟩;rw[Ac,Rd,sT];simp only[abS,l0,l.call,l1,r2,s,A,m,BA p]
 rw[if_neg p];by_cases u:t.name=aYI;.rw[if_pos u];have l0:=w.B3;obtain⟨h1,B,l,e,d⟩:=Jv w.pb g;have f:=w.after e d;have l1:=f.B3;obtain⟨h2,H,r2,j,i⟩:=CZ e g1;have k:=f.after j i;have s:=k.B3;obtain⟨A,r,q⟩:=LR j false;have x:=k.after r q;have l3:=x.B3;obtain⟨I,J,G,D,C⟩:=Y0 r (g1.AO.eq (c:={b.Cs.AO with fs:=false}) rfl rfl rfl rfl rfl) ht v 3;have E:=x.after D C;have l4:=E.B3;refine⟨_,_,?_,D,((d.trans i).trans q).trans C⟩;rw[Ac,Rd,sT];simp only[abS,l0,l.call,l1,r2.call,s,A,l3,G.call,m,p,BA u]
 rw[if_neg u];by_cases y:t.name=aX4;.rw[if_pos y];have l0:=w.B3;obtain⟨l,e,d⟩:=LR w.pb false;have f:=w.after e d;have l1:=f.B3;obtain⟨h2,H,r2,j,i⟩:=Y0 e (z.eq (c:={b with fs:=false}) rfl rfl rfl rfl rfl) ht v 3;have k:=f.after j i;have s:=k.B3;refine⟨_,_,?_,j,d.trans i⟩;rw[Ac,Rd,sT];simp only[abS,l0,l,l1,r2.call,m,p,u,BA y]
 .rw[if_neg y];have l0:=w.B3;obtain⟨h1,B,l,e,d⟩:=Y0 w.pb z ht v 3;have f:=w.after e d;have l1:=f.B3;refine⟨_,_,?_,e,d⟩;rw[Ac,Rd,sT];simp only[abS,l0,l.call,m,p,u,y]
def oC{nm:Ad}{l:List A9}{sp:Int}:(b.CX nm l sp).mode=b.mode:=by
 unfold BS.CX;split
 .rename_i hs;have e:∀p,(b.HL nm l sp p).mode=b.mode:=λp=>by unfold BS.HL;rw[if_pos hs]
  simp only[e]
 .rfl
def cO:∀{l:List B2} {b:BS},(BS.JL l b).2.mode=b.mode
 |[],b=>rfl
 |e::l,b=>by rw[BS.JL];simp only;rw[cO,oC]
def aPd(w:SW h bi b F si t av)(g:Gz b (n+4*a+4) o a)(ht:t.Sm)(B:Bj t.Aq av):FA h F 142 [.ptr (some (si,0))] (.tuple []) bi (b.UX t):=by
 have g1:Gz b (n+4+4*a) o a:=g.dn (by omega);have em:(b.AO.C6 t).mode=b.mode:=by unfold BS.C6;rw[oC];unfold BS.AO;simp only;exact cO
 unfold BS.UX;by_cases y:b.mode=9;.rw[if_pos (.inl y)];have l0:=w.B3;obtain⟨h1,E,v,q,f⟩:=CZ w.pb g1;have k:=w.after q f;have l1:=k.B3;obtain⟨h2,D,r2,p,e⟩:=E4 q g1.AO ht B;have j:=k.after p e;have x:=j.B3;obtain⟨u,m,d⟩:=LR p false;have i:=j.after m d;have l3:=i.B3;simp only[em] at l3;obtain⟨s,l,c⟩:=Gk m 17;have r:=i.after l c;have l4:=r.B3;refine⟨_,_,?_,l,((f.trans e).trans d).trans c⟩;rw[Ac,O5,mX];simp only[abS,l0,v.call,l1,r2.call,x,u,l3,s,BA y]
 by_cases z:b.mode=11;.rw[if_pos (.inr (.inl z))];have l0:=w.B3;obtain⟨h1,E,v,q,f⟩:=CZ w.pb g1;have k:=w.after q f;have l1:=k.B3;obtain⟨h2,D,r2,p,e⟩:=E4 q g1.AO ht B;have j:=k.after p e;have x:=j.B3;obtain⟨u,m,d⟩:=LR p false;have i:=j.after m d;have l3:=i.B3;simp only[em] at l3;obtain⟨s,l,c⟩:=Gk m 17;have r:=i.after l c;have l4:=r.B3;refine⟨_,_,?_,l,((f.trans e).trans d).trans c⟩;rw[Ac,O5,mX];simp only[abS,l0,v.call,l1,r2.call,x,u,l3,s,y,BA z]
 by_cases A:b.mode=13;.rw[if_pos (.inr (.inr (.inl A)))];have l0:=w.B3;obtain⟨h1,E,v,q,f⟩:=CZ w.pb g1;have k:=w.after q f;have l1:=k.B3;obtain⟨h2,D,r2,p,e⟩:=E4 q g1.AO ht B;have j:=k.after p e;have x:=j.B3;obtain⟨u,m,d⟩:=LR p false;have i:=j.after m d;have l3:=i.B3;simp only[em] at l3;obtain⟨s,l,c⟩:=Gk m 17;have r:=i.after l c;have l4:=r.B3;refine⟨_,_,?_,l,((f.trans e).trans d).trans c⟩;rw[Ac,O5,mX];simp only[abS,l0,v.call,l1,r2.call,x,u,l3,s,y,z,BA A]
 by_cases C:b.mode=14;.rw[if_pos (.inr (.inr (.inr (.inl C))))];have l0:=w.B3;obtain⟨h1,E,v,q,f⟩:=CZ w.pb g1;have k:=w.after q f;have l1:=k.B3;obtain⟨h2,D,r2,p,e⟩:=E4 q g1.AO ht B;have j:=k.after p e;have x:=j.B3;obtain⟨u,m,d⟩:=LR p false;have i:=j.after m d;have l3:=i.B3;simp only[em] at l3;obtain⟨s,l,c⟩:=Gk m 17;have r:=i.after l c;have l4:=r.B3;refine⟨_,_,?_,l,((f.trans e).trans d).trans c⟩;rw[Ac,O5,mX];simp only[abS,l0,v.call,l1,r2.call,x,u,l3,s,y,z,A,BA C]
 by_cases G:b.mode=15;.rw[if_pos (.inr (.inr (.inr (.inr G))))];have l0:=w.B3;obtain⟨h1,E,v,q,f⟩:=CZ w.pb g1;have k:=w.after q f;have l1:=k.B3;obtain⟨h2,D,r2,p,e⟩:=E4 q g1.AO ht B;have j:=k.after p e;have x:=j.B3;obtain⟨u,m,d⟩:=LR p false;have i:=j.after m d;have l3:=i.B3;simp only[em] at l3;obtain⟨s,l,c⟩:=Gk m 17;have r:=i.after l c;have l4:=r.B3;refine⟨_,_,?_,l,((f.trans e).trans d).trans c⟩;rw[Ac,O5,mX];simp only[abS,l0,v.call,l1,r2.call,x,u,l3,s,y,z,A,C,BA G]
 .rw[if_neg (by simp[y,z,A,C,G])];have l0:=w.B3;obtain⟨h1,E,v,q,f⟩:=CZ w.pb g1;have k:=w.after q f;have l1:=k.B3;obtain⟨h2,D,r2,p,e⟩:=E4 q g1.AO ht B;have j:=k.after p e;have x:=j.B3;obtain⟨u,m,d⟩:=LR p false;have i:=j.after m d;have l3:=i.B3;simp only[em] at l3;obtain⟨s,l,c⟩:=Gk m 16;have r:=i.after l c;have l4:=r.B3;refine⟨_,_,?_,l,((f.trans e).trans d).trans c⟩;rw[Ac,O5,mX];simp only[abS,l0,v.call,l1,r2.call,x,u,l3,s,y,z,A,C,G]
def aPe(w:SW h bi b F si t av)(g:Gz b (n+4*a+4) o a)(ht:t.Sm)(u:Bj t.Aq av):FA h F 134 [.ptr (some (si,0))] (.tuple []) bi (b.NS t):=by
 have g1:Gz b (n+4+4*a) o a:=g.dn (by omega);unfold BS.NS;cases s:AA [aXb] (En b.Au) with
 |true=>rw[if_pos rfl];have l0:=w.B3;have m:=nY w.pb g;have f:=aFU (En b.Au) aXb h;rw[s] at f;obtain⟨h1,z,l,j,d⟩:=PD w.pb g1;have e:=w.after j d;have l1:=e.B3;obtain⟨h2,y,r2,i,c⟩:=CZ j g1.Gs;have k:=e.after i c;have r:=k.B3;obtain⟨h3,A,x,q,p⟩:=E4 i g1.Gs.AO ht u;have v:=k.after q p;have l3:=v.B3;refine⟨_,_,?_,q,(d.trans c).trans p⟩;rw[Ac,fO,ŏ];simp only[abS,l0,m.call,f.call,l.call,l1,r2.call,r,x.call]
 |false=>rw[if_neg (by simp)];have l0:=w.B3;have m:=nY w.pb g;have f:=aFU (En b.Au) aXb h;rw[s] at f;obtain⟨h1,z,l,j,d⟩:=CZ w.pb g1;have e:=w.after j d;have l1:=e.B3;obtain⟨h2,y,r2,i,c⟩:=E4 j g1.AO ht u;have k:=e.after i c;have r:=k.B3;refine⟨_,_,?_,i,d.trans c⟩;rw[Ac,fO,ŏ];simp only[abS,l0,m.call,f.call,l.call,l1,r2.call]
def aPf(w:SW h bi b F si t av)(g:Gz b (n+4) o a)(ht:t.Sm)(r:Bj t.Aq av):FA h F 131 [.ptr (some (si,0))] (.tuple []) bi (b.YT t):=by
 unfold BS.YT;cases q:b.has [aX7] with
 |true=>
  rw[if_pos rfl];by_cases m:t.name=[114,112];.rw[if_pos (.inl m)];have l0:=w.B3;have d:=TU w g aX7;rw[q] at d;obtain⟨_,h1,s,k,e,c⟩:=Mx w.pb g aYf;have f:=w.after e c;have l1:=f.B3;obtain⟨h2,v,r2,j,i⟩:=E4 e (g.Ka C5) ht r;have l:=f.after j i;have u:=l.B3;refine⟨_,_,?_,j,c.trans i⟩;rw[Ac,TC,ml];simp only[abS,l0,d.call,k.call,l1,r2.call,BA m]
  by_cases p:t.name=[114,116];.rw[if_pos (.inr p)];have l0:=w.B3;have d:=TU w g aX7;rw[q] at d;obtain⟨_,h1,s,k,e,c⟩:=Mx w.pb g aYf;have f:=w.after e c;have l1:=f.B3;obtain⟨h2,v,r2,j,i⟩:=E4 e (g.Ka C5) ht r;have l:=f.after j i;have u:=l.B3;refine⟨_,_,?_,j,c.trans i⟩;rw[Ac,TC,ml];simp only[abS,l0,d.call,k.call,l1,r2.call,m,BA p]
  .rw[if_neg (by simp[m,p])];have l0:=w.B3;have d:=TU w g aX7;rw[q] at d;obtain⟨_,h1,s,k,e,c⟩:=Mx w.pb g [];have f:=w.after e c;have l1:=f.B3;obtain⟨h2,v,r2,j,i⟩:=E4 e (g.Ka C5) ht r;have l:=f.after j i;have u:=l.B3;refine⟨_,_,?_,j,c.trans i⟩;rw[Ac,TC,ml];simp only[abS,l0,d.call,k.call,l1,r2.call,m,p]
 |false=>rw[if_neg (by simp)];have l0:=w.B3;have d:=TU w g aX7;rw[q] at d;obtain⟨h1,s,k,e,c⟩:=E4 w.pb g ht r;have f:=w.after e c;have l1:=f.B3;refine⟨_,_,?_,e,c⟩;rw[Ac,TC,ml];simp only[abS,l0,d.call,k.call]
def aPg(w:SW h bi b F si t av)(g:Gz b (n+4*a+4) o a)(ht:t.Sm)(s:Bj t.Aq av):FA h F 132 [.ptr (some (si,0))] (.tuple []) bi (b.Ku t):=by
 have g1:Gz b (n+4+4*a) o a:=g.dn (by omega);unfold BS.Ku;dsimp only;by_cases p:t.name=aXY
 .rw[if_pos p];cases c:t.sc with
  |true=>rw[if_pos rfl];have l0:=w.B3;rw[c] at l0;obtain⟨h1,y,m,j,e⟩:=CZ w.pb g1;have f:=w.after j e;have l1:=f.B3;rw[c] at l1;obtain⟨h2,x,r2,i,d⟩:=iS j g1.AO ht s 3;have l:=f.after i d;have k:=l.B3;rw[c] at k;obtain⟨h3,z,v,r,q⟩:=PD i (g1.AO.Nf ht.Aq ht.name);have u:=l.after r q;have l3:=u.B3;refine⟨_,_,?_,r,(e.trans d).trans q⟩;rw[Ac,TD,mm];simp only[abS,l0,m.call,l1,r2.call,k,v.call,BA p]
  |false=>rw[if_neg (by simp)];have l0:=w.B3;rw[c] at l0;obtain⟨h1,y,m,j,e⟩:=CZ w.pb g1;have f:=w.after j e;have l1:=f.B3;rw[c] at l1;obtain⟨h2,x,r2,i,d⟩:=iS j g1.AO ht s 3;have l:=f.after i d;have k:=l.B3;rw[c] at k;refine⟨_,_,?_,i,e.trans d⟩;rw[Ac,TD,mm];simp only[abS,l0,m.call,l1,r2.call,k,BA p]
 .rw[if_neg p];cases c:t.sc with
  |true=>rw[if_pos rfl];have l0:=w.B3;rw[c] at l0;obtain⟨h1,y,m,j,e⟩:=CZ w.pb g1;have f:=w.after j e;have l1:=f.B3;rw[c] at l1;obtain⟨h2,x,r2,i,d⟩:=iS j g1.AO ht s 2;have l:=f.after i d;have k:=l.B3;rw[c] at k;obtain⟨h3,z,v,r,q⟩:=PD i (g1.AO.Nf ht.Aq ht.name);have u:=l.after r q;have l3:=u.B3;refine⟨_,_,?_,r,(e.trans d).trans q⟩;rw[Ac,TD,mm];simp only[abS,l0,m.call,l1,r2.call,k,v.call,p]
  |false=>rw[if_neg (by simp)];have l0:=w.B3;rw[c] at l0;obtain⟨h1,y,m,j,e⟩:=CZ w.pb g1;have f:=w.after j e;have l1:=f.B3;rw[c] at l1;obtain⟨h2,x,r2,i,d⟩:=iS j g1.AO ht s 2;have l:=f.after i d;have k:=l.B3;rw[c] at k;refine⟨_,_,?_,i,e.trans d⟩;rw[Ac,TD,mm];simp only[abS,l0,m.call,l1,r2.call,k,p]
def aJM(w:SW h bi b F si t av)(g:Gz b (n+1000) o a)(ht:t.Sm)(y:Bj t.Aq av):FA h F 135 [.ptr (some (si,0))] (.tuple []) bi (b.La t):=by
 unfold BS.La;by_cases k:b.Ql;.rw[if_pos (.inl k)];have l0:=w.B3;have d:=Sy w.pb g;rw[Ag k] at d;refine⟨_,_,?_,w.pb,.refl⟩;rw[Ac,Re,sU];simp only[abS,l0,d.call]
 by_cases r:b.Au=[];.rw[if_pos (.inr r)];have l0:=w.B3;have d:=Sy w.pb g;rw[Ak k] at d;have i:=VK w.pb;refine⟨_,_,?_,w.pb,.refl⟩;rw[Ac,Re,sU];simp only[Ce,eI,l0,d.call,i.call,show((b.Au.length:Int)=0)=True from BA (by rw[r];rfl)]
 have j:¬(b.Au.length:Int)=0:=λe=>r (CQ (by omega));rw[if_neg (by simp[k,r])];by_cases p:t.name=aWS;.rw[if_pos p];have l0:=w.B3;have d:=Sy w.pb g;rw[Ak k] at d;have i:=VK w.pb;have f:=Ð w.pb 0;obtain⟨h1,C,s,m,l⟩:=ez w.pb g ht y (DT b.Au 0).node;have q:=w.after m l;have l1:=q.B3;refine⟨_,_,?_,m,l⟩;rw[Ac,Re,sU];simp only[abS,l0,d.call,i.call,f.call,s.call,j,BA p,VM,Dn]
 rw[if_neg p];cases x:b.L9 with
 |true=>rw[if_pos rfl];have l0:=w.B3;have d:=Sy w.pb g;rw[Ak k] at d;have i:=VK w.pb;have f:=Þ w;rw[x] at f;obtain⟨s,m,l⟩:=LR w.pb false;have q:=w.after m l;have l1:=q.B3;obtain⟨h2,B,r2,v,u⟩:=ez m (g.eq (c:={b with fs:=false}) rfl rfl rfl rfl rfl) ht y (DT b.Au 1).node;have z:=q.after v u;have A:=z.B3;refine⟨_,_,?_,v,l.trans u⟩;rw[Ac,Re,sU];simp only[abS,l0,d.call,i.call,f.call,s,l1,r2.call,j,p]
 |false=>rw[if_neg (by simp)];have l0:=w.B3;have d:=Sy w.pb g;rw[Ak k] at d;have i:=VK w.pb;have f:=Þ w;rw[x] at f;refine⟨_,_,?_,w.pb,.refl⟩;rw[Ac,Re,sU];simp only[abS,l0,d.call,i.call,f.call,j,p]
def aPi(w:SW h bi b F si t av)(g:Gz b (n+4*a+5) o a)(ht:t.Sm):FA h F 77 [.ptr (some (si,0))] (.tuple []) bi (b.M1 t):=by
 have g1:Gz b (n+5+4*a) o a:=g.dn (by omega);unfold BS.M1;by_cases k:t.r=0;.rw[if_pos k];have l0:=w.B3;refine⟨_,_,?_,w.pb,.refl⟩;rw[Ac,fJ,t77];simp only[abS,l0,BA k]
 rw[if_neg k];dsimp only;by_cases m:t.Ju;.rw[if_pos m];have l0:=w.B3;obtain⟨h1,z,p,j,d⟩:=CZ w.pb g1;have e:=w.after j d;have l1:=e.B3;obtain⟨h2,y,r2,i,c⟩:=YZ j g1.AO ht.r;have l:=e.after i c;have q:=l.B3;have f:=TS t av h2;rw[Ag m] at f;refine⟨_,_,?_,i,d.trans c⟩;rw[Ac,fJ,t77];simp only[abS,l0,p.call,l1,r2.call,q,f.call,k]
 .rw[if_neg m];have l0:=w.B3;obtain⟨h1,z,p,j,d⟩:=CZ w.pb g1;have e:=w.after j d;have l1:=e.B3;obtain⟨h2,y,r2,i,c⟩:=YZ j g1.AO ht.r;have l:=e.after i c;have q:=l.B3;have f:=TS t av h2;rw[Ak m] at f;obtain⟨x,u,s⟩:=LR i false;have v:=l.after u s;have l3:=v.B3;refine⟨_,_,?_,u,(d.trans c).trans s⟩;rw[Ac,fJ,t77];simp only[abS,l0,p.call,l1,r2.call,q,f.call,x,k]
def aJN(w:SW h bi b F si t av)(g:Gz b n o a):FA h F 147 [.ptr (some (si,0))] (.tuple []) bi (b.GP t):=by
 unfold BS.GP;cases f:b.has [t.name] with
 |true=>rw[if_pos rfl];have l0:=w.B3;have c:=TU w g t.name;rw[f] at c;obtain⟨h1,k,j,e,d⟩:=iZ w g t.name [];have i:=w.after e d;have l1:=i.B3;refine⟨_,_,?_,e,d⟩;rw[Ac,fV,Ŕ];simp only[Ce,l0,c.call,j.call]
 |false=>rw[if_neg (by simp)];have l0:=w.B3;have c:=TU w g t.name;rw[f] at c;refine⟨_,_,?_,w.pb,.refl⟩;rw[Ac,fV,Ŕ];simp only[Ce,l0,c.call]
def aPj(w:SW h bi b F si t av)(g:Gz b n o a):FA h F 151 [.ptr (some (si,0))] (.tuple []) bi (b.J4 t):=by
 unfold BS.J4;cases k:b.has [t.name] with
 |true=>rw[if_pos rfl];have l0:=w.B3;have c:=TU w g t.name;rw[k] at c;obtain⟨h1,r,m,j,e⟩:=iZ w g t.name [];have f:=w.after j e;have l1:=f.B3;obtain⟨_,h2,q,r2,i,d⟩:=e_ j g.Dt;have l:=f.after i d;have p:=l.B3;refine⟨_,_,?_,i,e.trans d⟩;rw[Ac,fY,ŗ];simp only[abS,l0,c.call,m.call,l1,r2.call]
 |false=>rw[if_neg (by simp)];have l0:=w.B3;have c:=TU w g t.name;rw[k] at c;refine⟨_,_,?_,w.pb,.refl⟩;rw[Ac,fY,ŗ];simp only[Ce,l0,c.call]
def aPk(w:SW h bi b F si t av)(g:Gz b n o a):FA h F 150 [.ptr (some (si,0))] (.tuple []) bi b.IP:=by
 have d:Ey h F (h++[.DD]) F:=⟨by simp,λi hi _=>Ah hi,λ_ hf=> .inl hf⟩;have k:=Ó aFX h;have w:=w.after w.pb.J9 d;unfold BS.IP;have c:=TR w.pb g 1 (CO (ws:=Da)) (by decide);have s:b.Oq 1 (AA Da)=b.has Da:=rfl;rw[s] at c;cases p:b.has Da with
 |true=>rw[p] at c;rw[if_pos rfl];have l0:=w.B3;obtain⟨_,h1,x,r,m,f⟩:=Mx w.pb g [];have j:=w.after m f;have l1:=j.B3;obtain⟨_,h2,v,r2,l,e⟩:=iT m (g.Ka C5) (CO (ws:=Da)) (by decide);have q:=j.after l e;have u:=q.B3;refine⟨_,_,?_,l,d.trans (f.trans e)⟩;rw[Ac,fX,Ŗ];simp only[abS,k.call,l0,c.call,r.call,l1,r2.call]
 |false=>rw[p] at c;rw[if_neg (by simp)];have l0:=w.B3;refine⟨_,_,?_,w.pb,d⟩;rw[Ac,fX,Ŗ];simp only[abS,k.call,l0,c.call]
def aJO(w:SW h bi b F si t av)(g:Gz b n o a):FA h F 146 [.ptr (some (si,0))] (.bool (b.Ri t).2) bi (b.Ri t).1:=by
 unfold BS.Ri;cases f:b.has [aWX] with
 |true=>rw[if_pos rfl];have l0:=w.B3;have c:=TU w g aWX;rw[f] at c;obtain⟨j,e,d⟩:=Gk w.pb 19;have i:=w.after e d;have l1:=i.B3;refine⟨_,_,?_,e,d⟩;rw[Ac,fU,t146];simp only[abS,l0,c.call,j,l1]
 |false=>rw[if_neg (by simp)];have l0:=w.B3;have c:=TU w g aWX;rw[f] at c;refine⟨_,_,?_,w.pb,.refl⟩;rw[Ac,fU,t146];simp only[abS,l0,c.call]
def aPl(w:SW h bi b F si t av)(g:Gz b n o a):FA h F 153 [.ptr (some (si,0))] (.tuple []) bi (b.NA t):=by
 unfold BS.NA;by_cases j:b.Ql;.rw[if_pos j];have l0:=w.B3;have e:=Sy w.pb g;rw[Ag j] at e;obtain⟨h1,B,i,c,d⟩:=aJN w g;have f:=w.after c d;have l1:=f.B3;refine⟨_,_,?_,c,d⟩;rw[Ac,TF,mo];simp only[abS,l0,e.call,i.call]
 rw[if_neg j];have g1:Gz {b with FJ:=0} n o a:=g.eq rfl rfl rfl rfl rfl;by_cases l:b.FJ=0;.rw[if_neg (by simp[l])];have l0:=w.B3;have e:=Sy w.pb g;rw[Ak j] at e;obtain⟨i,c,d⟩:=iU w.pb 0;have f:=w.after c d;have l1:=f.B3;refine⟨_,_,?_,c,d⟩;rw[Ac,TF,mo];simp only[abS,l0,e.call,i,l1,BA l,ne_eq]
 cases u:b.Oq 1 (Bq b.FJ) with
 |true=>rw[if_pos ⟨l,rfl⟩];have l0:=w.B3;have e:=Sy w.pb g;rw[Ak j] at e;obtain⟨i,c,d⟩:=iU w.pb 0;have f:=w.after c d;have l1:=f.B3;have k:=nX c g1 1 b.FJ;rw[show({b with FJ:=0}:BS).Oq 1 (Bq b.FJ)=true from u] at k;obtain⟨_,h2,A,r2,s,p⟩:=Mx c g1 [];have q:=f.after s p;have y:=q.B3;obtain⟨_,h3,z,x,r,m⟩:=Y2 s (g1.Ka (lo:=DN (Cz []) C8 b.Au) C5) b.FJ;have v:=q.after r m;have l3:=v.B3;refine⟨_,_,?_,r,(d.trans p).trans m⟩;rw[Ac,TF,mo];simp only[abS,l0,e.call,i,l1,r2.call,y,x.call,l,ne_eq,k.call]
 |false=>rw[if_neg (by simp)];have l0:=w.B3;have e:=Sy w.pb g;rw[Ak j] at e;obtain⟨i,c,d⟩:=iU w.pb 0;have f:=w.after c d;have l1:=f.B3;have k:=nX c g1 1 b.FJ;rw[show({b with FJ:=0}:BS).Oq 1 (Bq b.FJ)=false from u] at k;refine⟨_,_,?_,c,d⟩;rw[Ac,TF,mo];simp only[abS,l0,e.call,i,l1,l,ne_eq,k.call]
end
section
variable{h h':Ae}{bi si:Nat}{b b':BS}{F F':Nat->Prop}{n o a:Nat}{t:Dv}{av:Aa}
def aJP(w:SW h bi b F si t av)(g:Gz b (n+1004) o a)(ht:t.Sm)(j:Bj t.Aq av)(k:¬t.st [aWS]):FA h F 121 [.ptr (some (si,0))] (.bool (b.Dh t).2) bi (b.Dh t).1:=by have l0:=w.B3;obtain⟨h1,l,i,d,c⟩:=iX w.pb g ht j (λe=>absurd e k);have f:=w.after d c;have l1:=f.B3;refine⟨_,_,?_,d,c⟩;rw[Ac,xT,aDJ];simp only[abS,l0,i.call]
def aPm(w:SW h bi b F si t av)(g:Gz b (n+8*(4*(o+8)+10)) o a):FA h F 148 [.ptr (some (si,0))] (.tuple []) bi (b.Du t.name):=by have l0:=w.B3;obtain⟨h1,i,f,d,c⟩:=Y1 w.pb g t.name;have e:=w.after d c;have l1:=e.B3;refine⟨_,_,?_,d,c⟩;rw[Ac,yD,t148];simp only[abS,l0,f.call]
def aPn(x:Aa):Cj cx 129 [x] h ff h:=by rw[Ac,xZ,aDO];simp only[Ce]
def aPo(w:SW h bi b F si t av)(g:Gz b (n+4) o a):FA h F 152 [.ptr (some (si,0))] (.tuple []) bi (b.Kv t):=by
 unfold BS.Kv;dsimp only;by_cases f:t.name=[112]
 .rw[if_pos f,if_pos f];have c:=TR w.pb g 3 (CO (ws:=[t.name])) (by simp);cases j:b.Oq 3 (AA [t.name]) with
  |true=>rw[j] at c;rw[if_pos rfl];have l0:=w.B3;obtain⟨h1,m,k,e,d⟩:=iZ w g t.name t.name;have i:=w.after e d;have l1:=i.B3;refine⟨_,_,?_,e,d⟩;rw[Ac,O6,mY];simp only[abS,l0,k.call,BA f,c.call,n9]
  |false=>rw[j] at c;rw[if_neg (by simp)];have l0:=w.B3;have s:=Ô [112] h;obtain⟨h1,m,k,e,d⟩:=E4 (t:=HG [112]) (av:= .slnil) w.pb g (Iu (by decide)) (.inr ⟨rfl,rfl⟩);have i:=w.after e d;have l1:=i.B3;obtain⟨h2,v,r2,q,p⟩:=iZ i (g.Nf (Iu (by decide)).Aq (Iu (by decide)).name) t.name t.name;have r:=i.after q p;have u:=r.B3;refine⟨_,_,?_,q,d.trans p⟩;rw[Ac,O6,mY];simp only[abS,l0,s.call,k.call,r2.call,BA f,c.call,n9,ne_eq,Dn]
 rw[if_neg f,if_neg f];by_cases l:t.name=[108,105]
 .rw[if_pos l];have c:=TR w.pb g 2 (CO (ws:=[t.name])) (by simp);cases j:b.Oq 2 (AA [t.name]) with
  |true=>rw[j] at c;rw[if_pos rfl];have l0:=w.B3;obtain⟨h1,m,k,e,d⟩:=iZ w g t.name t.name;have i:=w.after e d;have l1:=i.B3;refine⟨_,_,?_,e,d⟩;rw[Ac,O6,mY];simp only[abS,l0,k.call,f,BA l,c.call,n9]
  |false=>rw[j] at c;rw[if_neg (by simp)];have l0:=w.B3;refine⟨_,_,?_,w.pb,.refl⟩;rw[Ac,O6,mY];simp only[abS,l0,eq_false f,c.call,BA l,n9,ne_eq]
 .rw[if_neg l];have c:=TR w.pb g 1 (CO (ws:=[t.name])) (by simp);cases j:b.Oq 1 (AA [t.name]) with
  |true=>rw[j] at c;rw[if_pos rfl];have l0:=w.B3;obtain⟨h1,m,k,e,d⟩:=iZ w g t.name t.name;have i:=w.after e d;have l1:=i.B3;refine⟨_,_,?_,e,d⟩;rw[Ac,O6,mY];simp only[abS,l0,k.call,f,l,c.call,n9]
  |false=>rw[j] at c;rw[if_neg (by simp)];have l0:=w.B3;refine⟨_,_,?_,w.pb,.refl⟩;rw[Ac,O6,mY];simp only[abS,l0,f,c.call,l,n9,ne_eq]
def SW.aFZ(w:SW h bi b F si t av)(t':Dv)(oD:Aa):CR h 12 (.ptr (some (si,1))) (.agg (Ct t' oD))=some (h.set si (.cells (.ptr (some (bi,0))::Ct t' oD)))/\SW (h.set si (.cells (.ptr (some (bi,0))::Ct t' oD))) bi b F si t' oD/\Ey h (λi=>F i\/i=si) (h.set si (.cells (.ptr (some (bi,0))::Ct t' oD))) (λi=>F i\/i=si):=by
 have hl:=(Af.1 w.sc).1;refine⟨by simp only[CR,w.sc];rfl,⟨w.pb.Ep λi hi=>?_,by rw[AB hl],w.no⟩,⟨by simp,λi _ hn=>?_,λ_ h=> .inl h⟩⟩;.exact Al λe=>w.no (by rw[show si=i from e];exact hi)
 .exact Al λe=>hn (.inr (show i=si from e.symm))
def aPp(w:SW h bi b F si t av)(g:Gz b (n+4*a+4) o a):Ý h F si 154 [.ptr (some (si,0))] (.tuple []) bi (b.empty (HG [98,114])):=by have f:=Ô [98,114] h;obtain⟨s0,w,d⟩:=w.aFZ (HG [98,114]) .slnil;obtain⟨h1,j,e,i,c⟩:=aJL w g (Iu (by decide)) (.inr ⟨rfl,rfl⟩);refine⟨h1,j,?_,i,d.trans c⟩;rw[Ac,yE,aDS];simp only[Ce,f.call,s0,e.call]
def aJQ{c n:Nat}{m:Option Nat}{ps:List PN}{A:Ar}{e x:Int}(w:PA h c n m ps A)(k:Nz A)(ok:Fl A e)(hx:A.has x):
  ∃h' O9,Cj cx 207 [.ptr (some (c,0)),.int .i64 x] h (.int .i64 0) h'/\PA h' c n m O9 (A.cut x)/\Ey h (λi=>i∈FH c n m ps) h' (λi=>i∈FH c n m O9):=by
 have d:=Ss (x:=x) w;rw[if_pos hx] at d;obtain⟨h1,ZP,j,g,f⟩:=aBF w k ok hx;refine⟨h1,ZP,?_,g,f⟩;rw[Ac,zL,aEo];simp only[abS,GA,d.call,j.call,ne_eq]
def aJR(w:PB h bi b F)(g:Gz b n o a){x:Int}(hx:b.a.has x):∃d,Bg h none (.ptr (some (bi,0)))=some (.ptr (some (d,0)))/\FA h F 207 [.ptr (some (d,0)),.int .i64 x] (.int .i64 0) bi {b with a:=b.a.cut x}:=by
 obtain⟨d,j,c,tt,G,w,hc,rfl⟩:=w;obtain⟨h',k,r,w',x'⟩:=w.step (R:=λh'=>Cj cx 207 [.ptr (some (d,0)),.int .i64 x] h (.int .i64 0) h') λn m ps f=>by obtain⟨h1,ZP,r,i,e⟩:=aJQ f g.rm.WB g.ok.ok hx;exact⟨h1,n,m,ZP,r,i,e⟩
 exact⟨d,w.l0,h',_,r,⟨d,j,c,tt,k,w',hc,rfl⟩,x'⟩
def aPq(w:SW h bi b F si t av)(g:Gz b (n+4) o a)(ht:t.Sm)(I:Bj t.Aq av):FA h F 136 [.ptr (some (si,0))] (.tuple []) bi (b.J3 t):=by
 unfold BS.J3;cases f:b.L9 with
 |false=>rw[if_pos (.inl rfl)];have l0:=w.B3;have c:=Þ w;rw[f] at c;refine⟨_,_,?_,w.pb,.refl⟩;rw[Ac,WD,zm];simp only[abS,l0,c.call]
 |true=>
 rcases Bool.eq_false_or_eq_true b.fs with m|m
 rotate_left;.rw[if_pos (.inr m)];have l0:=w.B3;have c:=Þ w;rw[f] at c;rw[m] at l0;refine⟨_,_,?_,w.pb,.refl⟩;rw[Ac,WD,zm];simp only[abS,l0,c.call]
 .rw[if_neg (by simp[m])];have hi:=g.ok.op _ (VJ f);have l0:=w.B3;rw[m] at l0;have c:=Þ w;rw[f] at c;obtain⟨K,H,h1,v,E,z,x⟩:=aJR w.pb g hi.1;have y:=w.after z x;have g1:Gz {b with a:=b.a.cut (DT b.Au 1).node} (n+4) o a:=⟨g.ok.IK (eY g.ok.ok hi.1 (by rw[hi.2.1];decide)) sB,g.rm.IK nV,g.Au,g.AW⟩;have aU8:2<=b.Au.length:=by unfold BS.L9 at f;simp only[A4,Ci] at f;exact f.1
  have PI:Ev cx 136 [.ptr (some (si,0))] h λr h'=>r= .tuple []/\∃F',PB h' bi {({b with a:=b.a.cut (DT b.Au 1).node,Au:=b.Au.take 1}:BS).C6 t with mode:=20} F'/\Ey h F h' F':=by
   unfold Ev;rw[WD,zm];simp only[abS,l0,c.call,H,E.call];refine EK (i:=0) (λn:Nat=>[]) (λn h2=>1<=n/\n<=b.Au.length/\∃d,PB h2 bi {b with a:=b.a.cut (DT b.Au 1).node,Au:=b.Au.take n} d/\Ey h1 v h2 d) (λn=>n) (λn h2=>∃d,PB h2 bi {b with a:=b.a.cut (DT b.Au 1).node,Au:=b.Au.take 1} d/\Ey h1 v h2 d) b.Au.length rfl ⟨by omega,Ab _,v,by rw[Bf];exact z,.refl⟩ ?_ ?_
   .rintro j h2 ⟨SJ,hn,d,e,k⟩;have q:=y.after e k;have s:=q.B3;have ln:=VK e;have el:(b.Au.take j).length=j:=by rw[Av];omega
    simp only[el] at ln;have g2:Gz {b with a:=b.a.cut (DT b.Au 1).node,Au:=b.Au.take j} (n+4) (o+1) a:=(g1.le (by omega) (by omega) (Ab _)).Ka (Ca _ _);by_cases hk:j=1;.subst hk;simp only[abS,s,ln.call,show¬(1:Int)<((1:Nat):Int) by decide];exact .Jd 1 rfl ⟨d,e,k⟩
    .obtain⟨h3,A,u,l,p⟩:=PD e g2;have J:({b with a:=b.a.cut (DT b.Au 1).node,Au:=b.Au.take j}:BS).Gs={b with a:=b.a.cut (DT b.Au 1).node,Au:=b.Au.take (j-1)}:=by unfold BS.Gs;simp only[el];rw[if_neg (by omega),Cy,BG (by omega)]
     rw[J] at l;simp only[abS,s,ln.call,show(1:Int)<(j:Int) by omega,u.call];exact .next (j-1) rfl ⟨by omega,by omega,A,l,k.trans p⟩ (by omega)
   .rintro j h2 ⟨d,e,k⟩;have q:=y.after e k;have s:=q.B3;have g2:Gz {b with a:=b.a.cut (DT b.Au 1).node,Au:=b.Au.take 1} (n+4) o a:=g1.Ka (Ca _ _);obtain⟨h3,A,u,l,p⟩:=E4 e g2 ht I;have C:=q.after l p;have l3:=C.B3;obtain⟨D,G,B⟩:=Gk l 20;simp only[abS,s,u.call,l3,D];exact⟨_,rfl,rfl,_,G,((x.trans k).trans p).trans B⟩
  obtain⟨r,h',hr,rfl,F',hp,hx⟩:=PI.ret;exact⟨h',F',hr,hp,hx⟩
end
def kr(p:Ad×Aa):Aa×Aa:=(.str p.1,p.2)
def kf(s:Ad):List (Ad×Aa)->Option Aa
 |[]=>none
 |(t,v)::l=>if s=t then some v else kf s l
def kp(s:Ad)(v:Aa):List (Ad×Aa)->List (Ad×Aa)
 |[]=>[(s,v)]
 |(t,u)::l=>if s=t then(s,v)::l else(t,u)::kp s v l
def aBU{s t:Ad}{v:Aa}:∀{l:List (Ad×Aa)},kf t (kp s v l)=if t=s then some v else kf t l
 |[]=>rfl
 |(x,u)::l=>by
  unfold kp;by_cases h:s=x;.rw[if_pos h];unfold kf;subst h;split<;>rfl
  .rw[if_neg h];unfold kf;rw[aBU];by_cases h1:t=x;.subst h1;rw[if_pos rfl,if_pos rfl,if_neg (Dd h)]
   .rw[if_neg h1,if_neg h1]
def oE{s:Ad}:∀{l:List (Ad×Aa)},SO s (l.map kr)=some (kf s l)
 |[]=>rfl
 |(x,u)::l=>by
  simp only[Bd,kr,SO,kf];split;.rfl
  .exact oE
def fx{s:Ad}{v:Aa}:∀{l:List (Ad×Aa)},NZ s v (l.map kr)=some ((kp s v l).map kr)
 |[]=>rfl
 |(x,u)::l=>by
  simp only[Bd,kr,NZ,kp];split;.rfl
  .rw[show(List.map kr l)=l.map kr from rfl,fx];rfl
def cP{s:Ad}:∀{l:List (Ad×Aa)} {i:Nat},kf s l=none->RU s (l.map kr) i=some none
 |[],_,_=>rfl
 |(x,u)::l,i,h=>by
  unfold kf at h;by_cases e:s=x;.rw[if_pos e] at h;cases h
  .rw[if_neg e] at h;simp only[Bd,kr,RU,if_neg e];exact cP h
def ß{s t:Ad}{v:Aa}:∀{l:List (Ad×Aa)},kf s l=none->kf t (l++[(s,v)])=if t=s then some v else kf t l
 |[],_=>rfl
 |(x,u)::l,h=>by
  unfold kf at h;by_cases e:s=x;.rw[if_pos e] at h;cases h
  .rw[if_neg e] at h;simp only[Cr,kf];rw[ß h];by_cases a:t=x;.subst a;rw[if_pos rfl,if_pos rfl,if_neg (Dd e)]
   .rw[if_neg a,if_neg a]
def KM(h:Ae)(id:Nat)(d:Ad->Option Aa):Prop:=∃l,h[id]?=some (.map (l.map kr))/\∀s,kf s l=d s
def Fr(id:Nat)(h h':Ae):Prop:=h.length<=h'.length/\∀i,i<h.length->i≠id->h'[i]?=h[i]?
def Fr.refl{id:Nat}{h:Ae}:Fr id h h:=⟨Ab _,λ_ _ _=>rfl⟩
def Fr.trans{id:Nat}{h h1 h2:Ae}(a:Fr id h h1)(b:Fr id h1 h2):Fr id h h2:=⟨Bn a.1 b.1,λi hi hn=>(b.2 i (Ji hi a.1) hn).trans (a.2 i hi hn)⟩
def Fr.set{id:Nat}{h:Ae}{o:EE}:Fr id h (h.set id o):=⟨by simp,λi _ hn=>Al (Dd hn)⟩
def Fr.J9{id:Nat}{h u:Ae}:Fr id h (h++u):=⟨by simp,λi hi _=>Ah hi⟩
section
variable{h:Ae}{id:Nat}{d:Ad->Option Aa}{s:Ad}{v:Aa}
def KM.lt(w:KM h id d):id<h.length:=let⟨_,hl,_⟩:=w;(Af.1 hl).1
def KM.J9{u:Ae}(w:KM h id d):KM (h++u) id d:=let⟨l,hl,hd⟩:=w;⟨l,by rw[Ah w.lt];exact hl,hd⟩
def KM.set(w:KM h id d)(s:Ad)(v:Aa):∃h1,Ry h (.map (some id)) (.str s) v=some h1/\KM h1 id (λt=>if t=s then some v else d t)/\Fr id h h1:=by have hlt:=w.lt;obtain⟨l,hl,hd⟩:=w;refine⟨h.set id (.map ((kp s v l).map kr)),by simp only[Ry,hl,fx,BF],⟨kp s v l,by rw[AB hlt],λt=>?_⟩,.set⟩;rw[aBU];simp only[hd]
def KM.get(w:KM h id d)(s:Ad):Po h .nilFunc false (.map (some id)) (.str s)=some ((d s).getD .nilFunc):=by obtain⟨l,hl,hd⟩:=w;simp only[Po,Ue,hl,oE,BF,hd];cases d s<;>rfl
def KM.entry(w:KM h id d)(s:Ad)(hs:d s=none)(v:Aa):∃h0 h1 n v0,D5 (.WW .nilFunc) h [.map (some id),.str s]=some (h0,.tuple [v0,.int .i64 n])/\D5 .KO h0 [.map (some id),.int .i64 n,v]=some (h1,.bool true)/\KM h1 id (λt=>if t=s then some v else d t)/\Fr id h h1:=by
 have hlt:=w.lt;obtain⟨l,hl,hd⟩:=w;have h0:kf s l=none:=(hd s).trans hs;refine⟨h.set id (.map (l.map kr++[(.str s,.nilFunc)])),h.set id (.map ((l++[(s,v)]).map kr)),(l.map kr).length,.nilFunc,?_,?_,⟨l++[(s,v)],by rw[AB hlt],λt=>?_⟩,.set⟩;.simp only[D5,Wn,hl,cP h0,BF]
 .simp only[D5,SQ,AB hlt,Bz,Int.natCast_nonneg,BM,Bi (Ab _),DM,IX,Nc,BI _ _ (Ab _),jN,Cb,Bd,Dz,kr]
 .rw[ß h0];simp only[hd]
def lk:List (List Ad×Aa)->Ad->Option Aa
 |[],_=>none
 |(ws,v)::l,s=>if s∈ws then some v else lk l s
def KM.eq{a:Ad->Option Aa}(w:KM h id d)(e:∀s,d s=a s):KM h id a:=let⟨l,hl,hd⟩:=w;⟨l,hl,λs=>(hd s).trans (e s)⟩
def KM.push{L:List (List Ad×Aa)}(w:KM h id (λt=>if t=s then some v else lk L t)):KM h id (lk (([s],v)::L)):=w.eq λt=>by simp only[lk,Be]
def Pg{l:Ad}{ws:List Ad}{L:List (List Ad×Aa)}(x:KI l ws)(w:KM h id (lk L))(fv:Aa):∃h1,Cj cx 120 [.map (some id),.str l,fv] h (.tuple []) h1/\KM h1 id (lk ((ws,fv)::L))/\Fr id h h1:=by
 have hf:=x.few;have PI:Ev cx 120 [.map (some id),.str l,fv] h λr h1=>r= .tuple []/\KM h1 id (lk ((ws,fv)::L))/\Fr id h h1:=by
  unfold Ev;rw[xS,aDI];have b:HT ws (.sl 1 (ws.map B1)):=CO;have hl:(ws.map B1).length=ws.length:=Ao ..;simp only[Ce,(Ó x h).call,Br.Fk b];refine EK (i:=0) (λn:Nat=>[.int .i64 (n:Int)]) (λn h1=>n<=ws.length/\KM h1 id (λs=>if s∈ws.take n then some fv else lk L s)/\Fr id h h1) (λn=>ws.length-n) (λn h1=>KM h1 id (lk ((ws,fv)::L))/\Fr id h h1) 0 rfl ⟨AU _,w.J9.eq λs=>by simp,.J9⟩ ?_ ?_
  .rintro n h1 ⟨hn,a,f1⟩;by_cases hlt:n<ws.length
   .have g:(ws.map B1)[n]'(by rw[hl];exact hlt)=[.str ws[n]]:=by simp[B1]
    obtain⟨h2,e,f,f2⟩:=a.set ws[n] fv;simp only[Ce,eI,show(n:Int)<(ws.length:Int) by omega,Br.F0 b (show n<(ws.map B1).length by rw[hl];exact hlt),g,e,CI (show n<9223372036854775807 by omega)];exact .next (n+1) rfl ⟨hlt,f.eq λs=>by
     simp only[AV hlt,Aj,Be];by_cases c:s=ws[n];.simp[c]
     .simp[c],f1.trans f2⟩ (by omega)
   .simp only[abS,show¬(n:Int)<(ws.length:Int) by omega];exact .Jd n rfl ⟨a.eq λs=>by rw[A7 (by omega)];rfl,f1⟩
  .rintro n h1 ⟨a,f1⟩;simp only[Ce];exact⟨_,rfl,rfl,a,f1⟩
 obtain⟨r,h1,hr,rfl,a,f1⟩:=PI.ret;exact⟨h1,hr,a,f1⟩
def qf(k:Nat):Aa:= .func (.func 197) [] [.B4 [.func (.func k) [] []]]
def LU(k:Nat)(h:Ae):Cj cx 122 [.func (.func k) [] []] h (qf k) h:=by rw[Ac,xU,aDK];simp only[Ce,qf]
def aJS{k:Nat}{x:Aa}{h':Ae}(hk:k<=99999)(r:Cj cx k [x] h (.tuple []) h'):Cj cx 197 [x,.B4 [.func (.func k) [] []]] h ff h':=by rw[Ac,zD,aEg];simp only[Ce,CD,A8,if_pos hk,r.call]
def Ej:List (List Ad×Aa):=[(EY,.func (.func 121) [] []),(iN,qf 123),(Da,qf 124),(aAf,qf 125),(Ä,qf 126),(ZR,qf 127),(iO,qf 128),(dm,.func (.func 129) [] []),(od,qf 130),(dr,qf 131),(aAg,qf 132),(du,qf 133),(aAh,qf 134),(QB,qf 135),([aW0],qf 136),([aXn],qf 137),([aWV],qf 138),([[97]],qf 139),([aXk],qf 140),([aXa],qf 141),([aXz],qf 142)]
def aPr(h:Ae):∃h1,Cj cx 79 [] h (.map (some h.length)) h1/\KM h1 h.length (lk Ej.reverse)/\Fr h.length h h1:=by
 have k0:KM (h++[.map []]) h.length (lk []):=⟨[],by simp,λs=>rfl⟩;have e0:Fr h.length h (h++[.map []]):= .J9;obtain⟨h1,L,k1,e1⟩:=Pg (NB (by decide+kernel):KI aWR EY) k0 (.func (.func 121) [] []);try dsimp only at L
 obtain⟨h2,r2,Z,e2⟩:=Pg (NB (by decide+kernel):KI aWT iN) k1 (qf 123);try dsimp only at r2
 obtain⟨h3,K,Y,e3⟩:=Pg (NB (by decide+kernel):KI aW7 Da) Z (qf 124);try dsimp only at K
 obtain⟨h4,J,X,e4⟩:=Pg (NB (by decide+kernel):KI aYm aAf) Y (qf 125);try dsimp only at J
 obtain⟨h5,I,W,e5⟩:=Pg (NB (by decide+kernel):KI aW8 Ä) X (qf 126);try dsimp only at I
 obtain⟨h6,H,V,e6⟩:=Pg (NB (by decide+kernel):KI aXc ZR) W (qf 127);try dsimp only at H
 obtain⟨h7,G,U,e7⟩:=Pg (NB (by decide+kernel):KI aWY iO) V (qf 128);try dsimp only at G
 obtain⟨h8,F,T,e8⟩:=Pg (NB (by decide+kernel):KI aWZ dm) U (.func (.func 129) [] []);try dsimp only at F
 obtain⟨h9,E,S,e9⟩:=Pg (NB (by decide+kernel):KI aXi od) T (qf 130);try dsimp only at E
 obtain⟨ZO,g,Pe,D⟩:=Pg (NB (by decide+kernel):KI aYn dr) S (qf 131);try dsimp only at g
 obtain⟨V9,f,UZ,C⟩:=Pg (NB (by decide+kernel):KI aYM aAg) Pe (qf 132);try dsimp only at f
 obtain⟨h12,e,Wk,B⟩:=Pg (NB (by decide+kernel):KI aYN du) UZ (qf 133);try dsimp only at e
 obtain⟨h13,c,iY,A⟩:=Pg (NB (by decide+kernel):KI aXe aAh) Wk (qf 134);try dsimp only at c
 obtain⟨h14,b,cN,z⟩:=Pg (NB (by decide+kernel):KI aYF QB) iY (qf 135);try dsimp only at b
 obtain⟨R,h15,P,N,o,t15,tV,y⟩:=cN.entry aW0 (by decide+kernel) (qf 136);replace tV:=tV.push;obtain⟨h16,n,oq,x⟩:=tV.set aXn (qf 137);replace oq:=oq.push;obtain⟨h17,m,q_,w⟩:=oq.set aWV (qf 138);replace q_:=q_.push;obtain⟨Q,h18,O,M,l,t18,oF,u⟩:=q_.entry [97] (by decide+kernel) (qf 139);replace oF:=oF.push;obtain⟨h19,k,Ċ,t⟩:=oF.set aXk (qf 140);replace Ċ:=Ċ.push;obtain⟨h20,j,ċ,r⟩:=Ċ.set aXa (qf 141);replace ċ:=ċ.push;obtain⟨p,i,a,q⟩:=ċ.set aXz (qf 142);replace a:=a.push;refine⟨p,?_,a,((((((((((((((((((((e0.trans e1).trans e2).trans e3).trans e4).trans e5).trans e6).trans e7).trans e8).trans e9).trans D).trans C).trans B).trans A).trans z).trans y).trans x).trans w).trans u).trans t).trans r).trans q⟩;rw[Ac,yz,t79];simp only[abS,Nat.reduceLeDiff,↓reduceIte,L.call,r2.call,(LU 123 _).call,K.call,(LU 124 _).call,J.call,(LU 125 _).call,I.call,(LU 126 _).call,H.call,(LU 127 _).call,G.call,(LU 128 _).call,F.call,E.call,(LU 130 _).call,g.call,(LU 131 _).call,f.call,(LU 132 _).call,e.call,(LU 133 _).call,c.call,(LU 134 _).call,b.call,(LU 135 _).call,o,t15,(LU 136 _).call,n,(LU 137 _).call,m,(LU 138 _).call,l,t18,(LU 139 _).call,k,(LU 140 _).call,j,(LU 141 _).call,i,(LU 142 _).call]
def PK:List (List Ad×Aa):=[([aWU],.func (.func 121) [] []),([aWX],.func (.func 146) [] []),([aWS],.func (.func 146) [] []),(UW,qf 147),(Å,qf 148),(Da,qf 150),(ZR,qf 151),(cF,qf 152),([aXn],qf 153),([[98,114]],qf 154)]
def aPt(h:Ae):∃h1,Cj cx 81 [] h (.map (some h.length)) h1/\KM h1 h.length (lk PK.reverse)/\Fr h.length h h1:=by
 have y:KM (h++[.map []]) h.length (lk []):=⟨[],by simp,λs=>rfl⟩;have I:Fr h.length h (h++[.map []]):= .J9;obtain⟨h1,q,f,H⟩:=y.set aWU (.func (.func 121) [] []);replace f:=f.push;obtain⟨h2,p,e,G⟩:=f.set aWX (.func (.func 146) [] []);replace e:=e.push;obtain⟨h3,o,c,F⟩:=e.set aWS (.func (.func 146) [] []);replace c:=c.push;obtain⟨O,m,x,E⟩:=Pg (NB (by decide+kernel):KI aWQ UW) c (qf 147);try dsimp only at m
 obtain⟨N,l,w,D⟩:=Pg (NB (by decide+kernel):KI aW1 Å) x (qf 148);try dsimp only at l
 obtain⟨M,k,u,C⟩:=Pg (NB (by decide+kernel):KI aW7 Da) w (qf 150);try dsimp only at k
 obtain⟨L,j,t,B⟩:=Pg (NB (by decide+kernel):KI aXc ZR) u (qf 151);try dsimp only at j
 obtain⟨K,i,r,A⟩:=Pg (NB (by decide+kernel):KI aYy cF) t (qf 152);try dsimp only at i
 obtain⟨J,n,b,z⟩:=r.set aXn (qf 153);replace b:=b.push;obtain⟨ZO,a,Pe,g⟩:=b.set [98,114] (qf 154);replace Pe:=Pe.push;refine⟨ZO,?_,Pe,(((((((((I.trans H).trans G).trans F).trans E).trans D).trans C).trans B).trans A).trans z).trans g⟩;rw[Ac,za,t81];simp only[abS,Nat.reduceLeDiff,↓reduceIte,q,p,o,m.call,(LU 147 _).call,l.call,(LU 148 _).call,k.call,(LU 150 _).call,j.call,(LU 151 _).call,i.call,(LU 152 _).call,n,(LU 153 _).call,a,(LU 154 _).call]
def à:∀{L M:List (List Ad×Aa)},lk (L++M) s=(lk L s).or (lk M s)
 |[],M=>by simp[lk]
 |(ws,v)::L,M=>by
  simp only[Cr,lk];split;.rfl
  .exact à
def fy:∀{L:List (List Ad×Aa)},(∀g∈L,s∉g.1)->lk L s=none
 |[],_=>rfl
 |(ws,v)::L,h=>by simp only[lk];rw[if_neg (h (ws,v) (.head _))];exact fy λg hg=>h g (.tail _ hg)
def tW:∀{L:List (List Ad×Aa)},L.Pairwise (λa b=>∀x∈a.1,x∉b.1)->lk L.reverse s=lk L s
 |[],_=>rfl
 |(ws,v)::L,h=>by
  cases h with
  |cons h1 h2=>
   rw[EA,à,tW h2];simp only[lk];by_cases c:s∈ws;.rw[if_pos c,if_pos c,fy λg hg=>h1 g hg s c];rfl
   .rw[if_neg c,if_neg c];cases lk L s<;>rfl
def á:lk Ej.reverse s=lk Ej s:=tW (by decide+kernel)
def aF0:lk PK.reverse s=lk PK s:=tW (by decide+kernel)
end
section
variable{h h':Ae}{bi si:Nat}{b b':BS}{F F':Nat->Prop}{n o a:Nat}{t:Dv}{av:Aa}
def Fs(bi:Nat)(t:Dv)(av:Aa):EE:= .cells (.ptr (some (bi,0))::Ct t av)
def SW.new(w:PB h bi b F)(t:Dv)(av:Aa):SW (h++[Fs bi t av]) bi b F h.length t av:=
 ⟨w.J9,by simp[Fs],λhf=>Dw _ (w.lt hf)⟩
def SW.fr(w:SW h bi b F si t av){id:Nat}(Iy:h.length<=id)(f:Fr id h h'):SW h' bi b F si t av:=by have hl:=(Af.1 w.sc).1;exact⟨w.pb.Ep λi hi=>f.2 i (w.pb.lt hi) (by have:=w.pb.lt hi;omega),by rw[f.2 si hl (by omega)];exact w.sc,w.no⟩
def Kw{k h2:Ae}{id:Nat}{x:EE}(Iy:(h++[x]).length<=id)(f:Fr id (h++[x]) k)(e:Ey k (λi=>F i\/i=h.length) h2 (λi=>F' i\/i=h.length)):Ey h F h2 F':=by
 have l1:(h++[x]).length=h.length+1:=by simp
 have c:=f.1;have l3:=e.len;refine⟨by omega,λi hi hn=>?_,λi hf=>?_⟩;.rw[e.old i (by omega) (λh=>by rcases h with h|h;exact hn h;omega),f.2 i (by omega) (by omega),Ah hi]
 .rcases e.BN i (.inl hf) with(h1|h1)|h1
  .exact .inl h1
  .exact .inr (by omega)
  .exact .inr (by omega)
def tX(h0:Ae):∃h1,Cj cx 79 [] h0 (.map (some h0.length)) h1/\Fr h0.length h0 h1/\∀s,Po h1 .nilFunc false (.map (some h0.length)) (.str s)=some ((lk Ej s).getD .nilFunc):=by obtain⟨h1,r,k,f⟩:=aPr h0;exact⟨h1,r,f,λs=>by rw[k.get,á]⟩
def aF1(h0:Ae):∃h1,Cj cx 81 [] h0 (.map (some h0.length)) h1/\Fr h0.length h0 h1/\∀s,Po h1 .nilFunc false (.map (some h0.length)) (.str s)=some ((lk PK s).getD .nilFunc):=by obtain⟨h1,r,k,f⟩:=aPt h0;exact⟨h1,r,f,λs=>by rw[k.get,aF0]⟩
def ZY{k:Int}(hk:t.k=k)(h:1<=k/\k<=6):t.ok:=by unfold Dv.ok;omega
def Ph{k:Nat}{x y:List Aa}:Az (.FM true .fn) [.func (.func k) x y,.nilFunc]=some tt:=rfl
def Y4:Az (.FM true .fn) [.nilFunc,.nilFunc]=some ff:=rfl
def Ow(w:PB h bi b F)(hk:t.k=2){k:Nat}(e:lk Ej t.name=some (qf k))(g:k<=99999)(d:∀h1,SW h1 bi b F h.length t av->Ý h1 F h.length k [.ptr (some (h.length,0))] (.tuple []) bi b'):FA h F 49 [.ptr (some (bi,0)),.agg (Ct t av)] ff bi b':=by have w0:=SW.new w t av;obtain⟨h1,i,f1,g1⟩:=tX (h++[Fs bi t av]);have l:=w0.fr (Ab _) f1;obtain⟨h2,p,r2,m,j⟩:=d h1 l;have f:=Kc w t av;rw[Ag (ZY hk (by decide))] at f;have c:=g1 t.name;rw[e] at c;refine⟨h2,p,?_,m,Kw (Ab _) f1 j⟩;rw[Ac,K8,xD];simp only[Fs,Ct,hk,Ai,AE,AY] at i f c;simp only[abS,Nat.reduceLeDiff,↓reduceIte,B6,Ct,Ph,f.call,hk,show¬(2:Int)=5 by decide,show¬(2:Int)=4 by decide,show¬(2:Int)=6 by decide,i.call,c,E5,qf,CD,A8,(aJS g r2).call]
def aJU(w:PB h bi b F)(hk:t.k=2){k:Nat}{r:Bool}(e:lk Ej t.name=some (.func (.func k) [] []))(g:k<=99999)(d:∀h1,SW h1 bi b F h.length t av->FA h1 F k [.ptr (some (h.length,0))] (.bool r) bi b'):FA h F 49 [.ptr (some (bi,0)),.agg (Ct t av)] (.bool r) bi b':=by have w0:=SW.new w t av;obtain⟨h1,i,f1,g1⟩:=tX (h++[Fs bi t av]);have l:=w0.fr (Ab _) f1;obtain⟨h2,p,r2,m,j⟩:=(d h1 l).Mt (si:=h.length);have f:=Kc w t av;rw[Ag (ZY hk (by decide))] at f;have c:=g1 t.name;rw[e] at c;refine⟨h2,p,?_,m,Kw (Ab _) f1 j⟩;rw[Ac,K8,xD];simp only[Fs,Ct,hk,Ai,AE,AY] at i f c;simp only[abS,Nat.reduceLeDiff,↓reduceIte,B6,Ct,Ph,f.call,hk,show¬(2:Int)=5 by decide,show¬(2:Int)=4 by decide,show¬(2:Int)=6 by decide,i.call,c,E5,CD,A8,g,r2.call]
def aPu(w:PB h bi b F)(g:Gz b (n+4*a+4) o a)(ht:t.Sm)(s:Bj t.Aq av)(hk:t.k=2)(e:lk Ej t.name=none):FA h F 49 [.ptr (some (bi,0)),.agg (Ct t av)] ff bi (b.AO.C6 t):=by have w0:=SW.new w t av;obtain⟨h1,i,f1,g1⟩:=tX (h++[Fs bi t av]);have p:=w0.fr (Ab _) f1;have j:Gz b (n+4+4*a) o a:=g.dn (by omega);obtain⟨h2,v,r2,r,m⟩:=CZ p.pb j;obtain⟨h3,u,f,q,l⟩:=E4 r j.AO ht s;have d:=Kc w t av;rw[Ag (ZY hk (by decide))] at d;have c:=g1 t.name;rw[e] at c;refine⟨h3,u,?_,q,Kw (Ab _) f1 (m.trans l).oA⟩;rw[Ac,K8,xD];simp only[Fs,Ct,hk,Ai,AE,AY] at i d c f;simp only[abS,Nat.reduceLeDiff,↓reduceIte,B6,Ct,Y4,d.call,hk,show¬(2:Int)=5 by decide,show¬(2:Int)=4 by decide,show¬(2:Int)=6 by decide,i.call,c,uW,r2.call,f.call]
def tY(w:PB h bi b F)(hk:t.k=3){k:Nat}(e:lk PK t.name=some (qf k))(g:k<=99999)(d:∀h1,SW h1 bi b F h.length t av->Ý h1 F h.length k [.ptr (some (h.length,0))] (.tuple []) bi b'):FA h F 49 [.ptr (some (bi,0)),.agg (Ct t av)] ff bi b':=by have w0:=SW.new w t av;obtain⟨h1,i,f1,g1⟩:=aF1 (h++[Fs bi t av]);have l:=w0.fr (Ab _) f1;obtain⟨h2,p,r2,m,j⟩:=d h1 l;have f:=Kc w t av;rw[Ag (ZY hk (by decide))] at f;have c:=g1 t.name;rw[e] at c;refine⟨h2,p,?_,m,Kw (Ab _) f1 j⟩;rw[Ac,K8,xD];simp only[Fs,Ct,hk,Ai,AE,AY] at i f c;simp only[abS,Nat.reduceLeDiff,↓reduceIte,B6,Ct,Ph,f.call,hk,show¬(3:Int)=5 by decide,show¬(3:Int)=4 by decide,show¬(3:Int)=6 by decide,show¬(3:Int)=2 by decide,i.call,c,E5,qf,CD,A8,(aJS g r2).call]
def aF2(w:PB h bi b F)(hk:t.k=3){k:Nat}{r:Bool}(e:lk PK t.name=some (.func (.func k) [] []))(g:k<=99999)(d:∀h1,SW h1 bi b F h.length t av->FA h1 F k [.ptr (some (h.length,0))] (.bool r) bi b'):FA h F 49 [.ptr (some (bi,0)),.agg (Ct t av)] (.bool r) bi b':=by have w0:=SW.new w t av;obtain⟨h1,i,f1,g1⟩:=aF1 (h++[Fs bi t av]);have l:=w0.fr (Ab _) f1;obtain⟨h2,p,r2,m,j⟩:=(d h1 l).Mt (si:=h.length);have f:=Kc w t av;rw[Ag (ZY hk (by decide))] at f;have c:=g1 t.name;rw[e] at c;refine⟨h2,p,?_,m,Kw (Ab _) f1 j⟩;rw[Ac,K8,xD];simp only[Fs,Ct,hk,Ai,AE,AY] at i f c;simp only[abS,Nat.reduceLeDiff,↓reduceIte,B6,Ct,Ph,f.call,hk,show¬(3:Int)=5 by decide,show¬(3:Int)=4 by decide,show¬(3:Int)=6 by decide,show¬(3:Int)=2 by decide,i.call,c,E5,CD,A8,g,r2.call]
def aPv(w:PB h bi b F)(g:Gz b n o a)(hk:t.k=3)(e:lk PK t.name=none):FA h F 49 [.ptr (some (bi,0)),.agg (Ct t av)] ff bi (b.Dg t.name):=by have w0:=SW.new w t av;obtain⟨h1,f,f1,g1⟩:=aF1 (h++[Fs bi t av]);have j:=w0.fr (Ab _) f1;obtain⟨h2,m,r2,l,i⟩:=Í j.pb g t.name;have d:=Kc w t av;rw[Ag (ZY hk (by decide))] at d;have c:=g1 t.name;rw[e] at c;refine⟨h2,m,?_,l,Kw (Ab _) f1 i.oA⟩;rw[Ac,K8,xD];simp only[Fs,Ct,hk,Ai,AE,AY] at f d c;simp only[abS,Nat.reduceLeDiff,↓reduceIte,B6,Ct,Y4,d.call,hk,show¬(3:Int)=5 by decide,show¬(3:Int)=4 by decide,show¬(3:Int)=6 by decide,show¬(3:Int)=2 by decide,f.call,c,uW,r2.call]
end
section
variable{h h':Ae}{bi si:Nat}{b b':BS}{F F':Nat->Prop}{n o a:Nat}{t:Dv}{av:Aa}
def aAr:lk Ej aWS=some (qf 135):=by simp only[Ej,lk];rfl
def Rl(w:PB h bi b F)(g:Gz b (n+1000) o a)(ht:t.Sm)(d:Bj t.Aq av)(hs:t.st [aWS]):FA h F 49 [.ptr (some (bi,0)),.agg (Ct t av)] ff bi (b.Jb t):=by
 have hn:t.name=aWS:=Be.1 hs.2;have e:b.Jb t=b.La t:=by unfold BS.Jb BS.La;rw[if_pos hn]
 rw[e];exact Ow w hs.1 (by rw[hn];exact aAr) (by decide) λh1 c=>(aJM c g ht d).Mt
def tZ(w:PB h bi b F)(g:Gz b (n+8*(4*(o+a+8)+10)+8*a+2000) o a)(ht:t.Sm)(j:Bj t.Aq av)(hk:t.k=2):FA h F 49 [.ptr (some (bi,0)),.agg (Ct t av)] (.bool (b.opens t).2) bi (b.opens t).1:=by
 have ge:∀{m},m<=n+8*(4*(o+a+8)+10)+8*a+2000->Gz b m o a:=λh=>g.dn h;unfold BS.opens;by_cases d:t.name∈EY;.rw[if_pos d];exact aJU w hk (by simp only[Ej,lk,Be,↓reduceIte,d]) (by decide) λh1 c=>aJP c (n:=n) (ge (by omega)) ht j λhx=>absurd (Be.1 hx.2▸d:aWS∈EY) (by decide+kernel)
 rw[if_neg d];by_cases e:t.name∈iN;.rw[if_pos e];exact Ow w hk (by simp only[Ej,lk,↓reduceIte,d,e]) (by decide) λh1 c=>(Ü c (n:=n) (ge (by omega)) ht j).Mt
 rw[if_neg e];by_cases f:t.name∈Da;.rw[if_pos f];exact Ow w hk (by simp only[Ej,lk,↓reduceIte,d,e,f]) (by decide) λh1 c=>(aO2 c (n:=n) (ge (by omega)) ht j).Mt
 rw[if_neg f];by_cases i:t.name∈aAf;.rw[if_pos i];exact Ow w hk (by simp only[Ej,lk,↓reduceIte,d,e,f,i]) (by decide) λh1 c=>(aO3 c (n:=n) (ge (by omega)) ht j).Mt
 rw[if_neg i];by_cases l:t.name∈Ä;.rw[if_pos l];exact Ow w hk (by simp only[Ej,lk,↓reduceIte,d,e,f,i,l]) (by decide) λh1 c=>(aFS c (n:=n) (ge (by omega)) ht j).Mt
 rw[if_neg l];by_cases p:t.name∈ZR;.rw[if_pos p];exact Ow w hk (by simp only[Ej,lk,↓reduceIte,d,e,f,i,l,p]) (by decide) λh1 c=>(aO6 c (n:=n) (ge (by omega)) ht j).Mt
 rw[if_neg p];by_cases q:t.name∈iO;.rw[if_pos q];exact Ow w hk (by simp only[Ej,lk,↓reduceIte,d,e,f,i,l,p,q]) (by decide) λh1 c=>aJL c (n:=n) (ge (by omega)) ht j
 rw[if_neg q];by_cases r:t.name∈dm;.rw[if_pos r];exact aJU w hk (by simp only[Ej,lk,↓reduceIte,d,e,f,i,l,p,q,r]) (by decide) λh1 c=>⟨h1,F,aPn _,c.pb,.refl⟩
 rw[if_neg r];by_cases s:t.name∈od;.rw[if_pos s];exact Ow w hk (by simp only[Ej,lk,↓reduceIte,d,e,f,i,l,p,q,r,s]) (by decide) λh1 c=>(aPc c (n:=n) (ge (by omega)) ht j).Mt
 rw[if_neg s];by_cases u:t.name∈dr;.rw[if_pos u];exact Ow w hk (by simp only[Ej,lk,↓reduceIte,d,e,f,i,l,p,q,r,s,u]) (by decide) λh1 c=>(aPf c (n:=n) (ge (by omega)) ht j).Mt
 rw[if_neg u];by_cases Pe:t.name∈aAg;.rw[if_pos Pe];exact Ow w hk (by simp only[Ej,lk,↓reduceIte,d,e,f,i,l,p,q,r,s,u,Pe]) (by decide) λh1 c=>(aPg c (n:=n) (ge (by omega)) ht j).Mt
 rw[if_neg Pe];by_cases UZ:t.name∈du;.rw[if_pos UZ];exact Ow w hk (by simp only[Ej,lk,↓reduceIte,d,e,f,i,l,p,q,r,s,u,Pe,UZ]) (by decide) λh1 c=>(aO9 c (n:=n) (ge (by omega)) ht j).Mt
 rw[if_neg UZ];by_cases Wk:t.name∈aAh;.rw[if_pos Wk];exact Ow w hk (by simp only[Ej,lk,↓reduceIte,d,e,f,i,l,p,q,r,s,u,Pe,UZ,Wk]) (by decide) λh1 c=>(aPe c (n:=n) (ge (by omega)) ht j).Mt
 rw[if_neg Wk];by_cases iY:t.name∈QB;.rw[if_pos iY];exact Ow w hk (by simp only[Ej,lk,↓reduceIte,d,e,f,i,l,p,q,r,s,u,Pe,UZ,Wk,iY]) (by decide) λh1 c=>(aJM c (n:=n) (ge (by omega)) ht j).Mt
 rw[if_neg iY];by_cases cN:t.name=aW0;.rw[if_pos cN];exact Ow w hk (by simp only[Ej,lk,Be,↓reduceIte,d,e,f,i,l,p,q,r,s,u,Pe,UZ,Wk,iY,BA cN]) (by decide) λh1 c=>(aPq c (n:=n) (ge (by omega)) ht j).Mt
 rw[if_neg cN];by_cases tV:t.name=aXn;.rw[if_pos tV];exact Ow w hk (by simp only[Ej,lk,Be,↓reduceIte,d,e,f,i,l,p,q,r,s,u,Pe,UZ,Wk,iY,cN,BA tV]) (by decide) λh1 c=>(aO4 c (n:=n) (ge (by omega)) ht j).Mt
 rw[if_neg tV];by_cases oq:t.name=aWV;.rw[if_pos oq];exact Ow w hk (by simp only[Ej,lk,Be,↓reduceIte,d,e,f,i,l,p,q,r,s,u,Pe,UZ,Wk,iY,cN,tV,BA oq]) (by decide) λh1 c=>(aO5 c (n:=n) (ge (by omega)) ht j).Mt
 rw[if_neg oq];by_cases q_:t.name=[97];.rw[if_pos q_];exact Ow w hk (by simp only[Ej,lk,Be,↓reduceIte,d,e,f,i,l,p,q,r,s,u,Pe,UZ,Wk,iY,cN,tV,oq,BA q_]) (by decide) λh1 c=>(aPa c (n:=n) (ge (by omega)) ht j).Mt
 rw[if_neg q_];by_cases oF:t.name=aXk;.rw[if_pos oF];exact Ow w hk (by simp only[Ej,lk,Be,↓reduceIte,d,e,f,i,l,p,q,r,s,u,Pe,UZ,Wk,iY,cN,tV,oq,q_,BA oF]) (by decide) λh1 c=>(aO7 c (n:=n) (ge (by omega)) ht j).Mt
 rw[if_neg oF];by_cases Ċ:t.name=aXa;.rw[if_pos Ċ];exact Ow w hk (by simp only[Ej,lk,Be,↓reduceIte,d,e,f,i,l,p,q,r,s,u,Pe,UZ,Wk,iY,cN,tV,oq,q_,oF,BA Ċ]) (by decide) λh1 c=>(aO8 c (n:=n) (ge (by omega)) ht j).Mt
 rw[if_neg Ċ];by_cases ċ:t.name=aXz;.rw[if_pos ċ];exact Ow w hk (by simp only[Ej,lk,Be,↓reduceIte,d,e,f,i,l,p,q,r,s,u,Pe,UZ,Wk,iY,cN,tV,oq,q_,oF,Ċ,BA ċ]) (by decide) λh1 c=>(aPd c (n:=n) (ge (by omega)) ht j).Mt
 rw[if_neg ċ];exact aPu w (n:=n) (ge (by omega)) ht j hk (by simp only[Ej,lk,Be,↓reduceIte,d,e,f,i,l,p,q,r,s,u,Pe,UZ,Wk,iY,cN,tV,oq,q_,oF,Ċ,ċ])
def oG(w:PB h bi b F)(g:Gz b (n+8*(4*(o+a+8)+10)+8*a+2000) o a)(ht:t.Sm)(x:Bj t.Aq av)(hk:t.k=3):FA h F 49 [.ptr (some (bi,0)),.agg (Ct t av)] (.bool (b.NT t).2) bi (b.NT t).1:=by
 have ge:∀{m},m<=n+8*(4*(o+a+8)+10)+8*a+2000->Gz b m o a:=λh=>g.dn h;unfold BS.NT;by_cases v:t.name=AF;.rw[if_pos v];exact aF2 w hk (by rw[v];simp only[PK,lk];rfl) (by decide) λh1 c=>aJP c (n:=n) (ge (by omega)) ht x λhx=>by have:=hx.1;omega
 rw[if_neg v];by_cases u:t.name∈QB
 .rw[if_pos u];have r:t.name=aWS\/t.name=aWX:=by simpa[QB] using u
  rcases r with r|r
  .exact aF2 w hk (by rw[r];simp only[PK,lk];rfl) (by decide) λh1 c=>aJO c (n:=n) (ge (by omega))
  .exact aF2 w hk (by rw[r];simp only[PK,lk];rfl) (by decide) λh1 c=>aJO c (n:=n) (ge (by omega))
 rw[if_neg u];have e:¬t.name=aWS/\¬t.name=aWX:=by simpa[QB] using u
 have d:¬t.name=aWU:=v;by_cases f:t.name∈UW;.rw[if_pos f];exact tY w hk (by simp only[PK,lk,Be,↓reduceIte,d,e.1,e.2,f]) (by decide) λh1 c=>(aJN c (n:=n) (ge (by omega))).Mt
 rw[if_neg f];by_cases i:t.name∈Å;.rw[if_pos i];exact tY w hk (by simp only[PK,lk,Be,↓reduceIte,d,e.1,e.2,f,i]) (by decide) λh1 c=>(aPm c (n:=n) (ge (by omega))).Mt
 rw[if_neg i];by_cases j:t.name∈Da;.rw[if_pos j];exact tY w hk (by simp only[PK,lk,Be,↓reduceIte,d,e.1,e.2,f,i,j]) (by decide) λh1 c=>(aPk c (n:=n) (ge (by omega))).Mt
 rw[if_neg j];by_cases l:t.name∈ZR;.rw[if_pos l];exact tY w hk (by simp only[PK,lk,Be,↓reduceIte,d,e.1,e.2,f,i,j,l]) (by decide) λh1 c=>(aPj c (n:=n) (ge (by omega))).Mt
 rw[if_neg l];by_cases p:t.name∈cF;.rw[if_pos p];exact tY w hk (by simp only[PK,lk,Be,↓reduceIte,d,e.1,e.2,f,i,j,l,p]) (by decide) λh1 c=>(aPo c (n:=n) (ge (by omega))).Mt
 rw[if_neg p];by_cases q:t.name=aXn;.rw[if_pos q];exact tY w hk (by simp only[PK,lk,Be,↓reduceIte,d,e.1,e.2,f,i,j,l,p,BA q]) (by decide) λh1 c=>(aPl c (n:=n) (ge (by omega))).Mt
 rw[if_neg q];by_cases s:t.name=[98,114];.rw[if_pos s];exact tY w hk (by simp only[PK,lk,Be,↓reduceIte,d,e.1,e.2,f,i,j,l,p,q,BA s]) (by decide) λh1 c=>(aPp c (n:=n) (ge (by omega)))
 rw[if_neg s];exact aPv w (n:=n) (ge (by omega)) hk (by simp only[PK,lk,Be,↓reduceIte,d,e.1,e.2,f,i,j,l,p,q,s])
end
section
variable{h h':Ae}{bi si:Nat}{b b':BS}{F F':Nat->Prop}{n o a:Nat}{t:Dv}{av:Aa}
def aF3(w:PB h bi b F)(g:Gz b n o a):FA h F 87 [.ptr (some (bi,0))] (.tuple []) bi b.aFF:=by
 have ć:=g.rm.tm;obtain⟨l,j,c,tt,G,w,hc,rfl⟩:=w;have lt:=Br.Fk w.t;have l6:=w.l6;by_cases h0:b.tm=[]
 .have e:b.aFF=b:=by
   unfold BS.aFF;have:b.tm.dropLast=b.tm:=by rw[h0];rfl
   rw[this]
  refine⟨h,_,?_,⟨l,j,c,tt,G,by rw[e];exact w,by rw[e];exact hc,rfl⟩,.refl⟩;have i:Az (.len false) [tt]=some (I 0):=by rw[lt,h0];rfl
  rw[Ac,sQ,t87];simp only[abS,l6,i,Wa]
 .have hpos:=Cq.2 h0;obtain⟨s,r,f⟩:=Br.Tm w.t (k:= .i64) (n:=b.tm.length-1) (by omega);rw[<-Wl] at f;obtain⟨p,q,d⟩:=ź f (by simp;omega) h;have m:=w.aFt d;refine⟨_,_,?_,⟨l,j,c,p,G,m,hc,rfl⟩,Cn⟩;rw[Ac,sQ,t87];simp only[abS,l6,lt,show(0:Int)<(b.tm.length:Int) by omega,NN hpos (show b.tm.length<9223372036854775807 by omega),r,q.call,w.st (k:=6) (v0:=tt) rfl (Br.cells d),Wa]
def cQ(w:PB h bi b F)(g:Gz b (n+4*a+5) o a)(ht:t.Sm)(hk:t.k=5):FA h F 49 [.ptr (some (bi,0)),.agg (Ct t av)] ff bi (b.M1 t):=by have w0:=SW.new w t av;obtain⟨h2,f,r2,e,d⟩:=(aPi w0 g ht).Mt (si:=h.length);have c:=Kc w t av;rw[Ag (ZY hk (by decide))] at c;refine⟨h2,f,?_,e,Kw (Ab _) .refl d⟩;rw[Ac,K8,xD];simp only[Fs,Ct,hk] at r2 c;simp only[abS,Nat.reduceLeDiff,↓reduceIte,B6,Ct,c.call,hk,r2.call]
def TV(w:PB h bi b F)(g:Gz b (n+1) o a)(ht:t.Sm)(hk:t.k=4):FA h F 49 [.ptr (some (bi,0)),.agg (Ct t av)] ff bi (b.DA t.data 0):=by have w0:=SW.new w t av;obtain⟨h2,f,r2,e,d⟩:=Mw w0.pb g (Bn ht.data (by decide)) 0;have c:=Kc w t av;rw[Ag (ZY hk (by decide))] at c;refine⟨h2,f,?_,e,Kw (id:=h.length+1) (by simp) .refl d.oA⟩;rw[Ac,K8,xD];simp only[Fs,Ct,hk] at r2 c;simp only[abS,Nat.reduceLeDiff,↓reduceIte,B6,Ct,c.call,hk,r2.call,show¬(4:Int)=5 by decide]
def oH(w:PB h bi b F)(hk:t.k=1):FA h F 49 [.ptr (some (bi,0)),.agg (Ct t av)] ff bi b:=by have w0:=SW.new w t av;have c:=Kc w t av;rw[Ag (ZY hk (by decide))] at c;refine⟨_,F,?_,w0.pb,Kw (id:=h.length+1) (x:=Fs bi t av) (by simp) .refl (Ey.refl.oA)⟩;rw[Ac,K8,xD];simp only[Fs,Ct,hk] at c⊢;simp only[abS,Nat.reduceLeDiff,↓reduceIte,B6,Ct,c.call,hk,show¬(1:Int)=5 by decide,show¬(1:Int)=4 by decide,show¬(1:Int)=6 by decide,show¬(1:Int)=2 by decide,show¬(1:Int)=3 by decide]
def â(w:PB h bi b F)(hk:¬t.ok):FA h F 49 [.ptr (some (bi,0)),.agg (Ct t av)] ff bi b:=by have c:=Kc w t av;rw[Ak hk] at c;refine⟨_,F,?_,w,.refl⟩;rw[Ac,K8,xD];simp only[Ct] at c;simp only[abS,Nat.reduceLeDiff,↓reduceIte,B6,Ct,c.call]
end
section
variable{h h':Ae}{bi:Nat}{b b':BS}{F:Nat->Prop}{n o a:Nat}{t:Dv}{av:Aa}
def aAs(hs:t.st EY):¬t.st [aWS]:=λhx=>absurd (Be.1 hx.2▸hs.2:aWS∈EY) (by decide+kernel)
def aJV(w:PB h bi b F)(g:Gz b (n+4*a+1005) o a)(ht:t.Sm)(H:Bj t.Aq av)(hf:∀m,t.k=2->FA h F 83 [.ptr (some (bi,0)),.int .i64 m] tt bi (b.EZ m).1):FA h F 51 [.ptr (some (bi,0)),.agg (Ct t av)] (.bool (b.Ei t).2) bi (b.Ei t).1:=by
 have B3:=w.B3;unfold BS.Ei BS.QC;by_cases G:¬t.ok;.rw[if_pos G];have i:=Kc w t av;rw[Ak G] at i;refine⟨_,_,?_,w,.refl⟩;rw[Ac,JO,t51];simp only[abS,↓reduceIte,i.call]
 rw[if_neg G];have i:=Kc w t av;rw[Ag (EB.1 G)] at i;by_cases j:t.k=5;.rw[if_pos j];obtain⟨h1,u,f,d,c⟩:=cQ (n:=n) (av:=av) w (g.dn (by omega)) ht j;refine⟨_,_,?_,d,c⟩;rw[Ac,JO,t51];simp only[abS,↓reduceIte,i.call,BA j,f.call]
 rw[if_neg j];by_cases l:t.k=4;.rw[if_pos l];obtain⟨h1,u,f,d,c⟩:=TV (n:=n) (av:=av) w (g.dn (by omega)) ht l;refine⟨_,_,?_,d,c⟩;rw[Ac,JO,t51];simp only[abS,↓reduceIte,i.call,j,BA l,f.call]
 rw[if_neg l];by_cases p:t.k=1;.rw[if_pos p];obtain⟨h1,u,f,d,c⟩:=oH (av:=av) w p;refine⟨_,_,?_,d,c⟩;rw[Ac,JO,t51];simp only[abS,↓reduceIte,i.call,j,l,BA p,f.call]
 rw[if_neg p];by_cases E:t.st EY;.rw[if_pos E];have q:=FZ Rk t av h;rw[Ag E] at q;obtain⟨h1,u,f,d,c⟩:=iX (n:=n) w (g.dn (by omega)) ht H (λe=>absurd e (aAs E));refine⟨_,_,?_,d,c⟩;rw[Ac,JO,t51];simp only[abS,↓reduceIte,i.call,q.call,j,l,p,f.call]
 rw[if_neg E];have q:=FZ Rk t av h;rw[Ak E] at q;by_cases D:t.en [AF];.rw[if_pos D];have r:=ZW GQ t av h;rw[Ag D] at r;obtain⟨h1,u,f,d,c⟩:=iX (n:=n) w (g.dn (by omega)) ht H (λe=>by have h1:=e.1;have h2:=D.1;omega);refine⟨_,_,?_,d,c⟩;rw[Ac,JO,t51];simp only[abS,↓reduceIte,i.call,q.call,r.call,j,l,p,f.call]
 rw[if_neg D];have r:=ZW GQ t av h;rw[Ak D] at r;by_cases C:t.st sT1;.rw[if_pos C];have s:=FZ Ù t av h;rw[Ag C] at s;obtain⟨h1,u,f,d,c⟩:=hf 9 C.1;refine⟨_,_,?_,d,c⟩;rw[Ac,JO,t51];simp only[abS,↓reduceIte,i.call,q.call,r.call,s.call,j,l,p,f.call,BS.EZ,BS.again]
 rw[if_neg C];have s:=FZ Ù t av h;rw[Ak C] at s;by_cases B:t.st [aYp];.rw[if_pos B];have v:=FZ fq t av h;rw[Ag B] at v;obtain⟨h1,u,f,d,c⟩:=hf 12 B.1;refine⟨_,_,?_,d,c⟩;rw[Ac,JO,t51];simp only[abS,↓reduceIte,i.call,q.call,r.call,s.call,v.call,j,l,p,f.call,BS.EZ,BS.again]
 rw[if_neg B];have v:=FZ fq t av h;rw[Ak B] at v;by_cases A:t.st [[116,114]];.rw[if_pos A];have x:=FZ Û t av h;rw[Ag A] at x;obtain⟨h1,u,f,d,c⟩:=hf 13 A.1;refine⟨_,_,?_,d,c⟩;rw[Ac,JO,t51];simp only[abS,↓reduceIte,i.call,q.call,r.call,s.call,v.call,x.call,j,l,p,f.call,BS.EZ,BS.again]
 rw[if_neg A];have x:=FZ Û t av h;rw[Ak A] at x;by_cases z:t.st sTd;.rw[if_pos z];have y:=FZ Ú t av h;rw[Ag z] at y;obtain⟨h1,u,f,d,c⟩:=hf 14 z.1;refine⟨_,_,?_,d,c⟩;rw[Ac,JO,t51];simp only[abS,↓reduceIte,i.call,q.call,r.call,s.call,v.call,x.call,y.call,j,l,p,f.call,BS.EZ,BS.again]
 rw[if_neg z];have y:=FZ Ú t av h;rw[Ak z] at y;by_cases Pe:t.k=2;.rw[if_pos Pe];obtain⟨h1,u,f,d,c⟩:=hf 7 Pe;refine⟨_,_,?_,d,c⟩;rw[Ac,JO,t51];simp only[abS,↓reduceIte,i.call,q.call,r.call,s.call,v.call,x.call,y.call,j,l,p,BA Pe,f.call,BS.EZ,BS.again]
 rw[if_neg Pe];by_cases UZ:t.k=3;.rw[if_pos UZ];refine⟨_,_,?_,w,.refl⟩;rw[Ac,JO,t51];simp only[abS,↓reduceIte,i.call,q.call,r.call,s.call,v.call,x.call,y.call,j,l,p,Pe,BA UZ]
 rw[if_neg UZ];by_cases Wk:b.Ql;.rw[if_pos Wk];have om:=Sy w g;rw[Ag Wk] at om;obtain⟨_,h1,u,f,d,c⟩:=iT w g (CO (ws:=[AF])) (by decide);have g1:Gz {b with Au:=DN C8 (AA [AF]) b.Au} (n+4*a+1005) o a:=g.Ka C5;obtain⟨_,h2,T,r2,N,K⟩:=e_ d g1;have g2:Gz {b with Au:=DN C8 (AA [AF]) b.Au,AW:=EX b.AW} (n+4*a+1005) o a:=g.sub (lt:=b.tm) C5 (Ca _ _) (Ab _);have g3:Gz {b with Au:=DN C8 (AA [AF]) b.Au,AW:=EX b.AW,tm:=b.tm.dropLast} (n+4*a+1005) o a:=g.sub C5 (Ca _ _) (by simp);obtain⟨h3,S,P,M,J⟩:=aF3 N g2;obtain⟨Q,R,O,L,I⟩:=aAo M g3;refine⟨_,_,?_,L,((c.trans K).trans J).trans I⟩;rw[Ac,JO,t51];simp only[abS,↓reduceIte,i.call,q.call,r.call,s.call,v.call,x.call,y.call,om.call,j,l,p,Pe,UZ,X_,f.call,r2.call,P.call,O.call]
 rw[if_neg Wk];have om:=Sy w g;rw[Ak Wk] at om;obtain⟨h1,u,f,d,c⟩:=Î w;refine⟨_,_,?_,d,c⟩;rw[Ac,JO,t51];simp only[abS,↓reduceIte,i.call,q.call,r.call,s.call,v.call,x.call,y.call,om.call,j,l,p,Pe,UZ,f.call]
def aPw(w:PB h bi b F)(g:Gz b (n+8*(4*(o+a+8)+10)+8*a+2000) o a)(ht:t.Sm)(v:Bj t.Aq av):FA h F 49 [.ptr (some (bi,0)),.agg (Ct t av)] (.bool (b.M2 t).2) bi (b.M2 t).1:=by
 have ge:∀{m},m<=n+8*(4*(o+a+8)+10)+8*a+2000->Gz b m o a:=λh=>g.dn h;unfold BS.M2;by_cases j:¬t.ok;.rw[if_pos j];exact â w j
 rw[if_neg j];by_cases s:t.k=5;.rw[if_pos s];exact cQ (n:=n) w (ge (by omega)) ht s
 rw[if_neg s];by_cases r:t.k=4;.rw[if_pos r];exact TV (n:=n) w (ge (by omega)) ht r
 rw[if_neg r];by_cases d:t.k=6
 .rw[if_pos d];obtain⟨z,l6,u⟩:=w.ltm;have lt:=Br.Fk u;have w0:=SW.new w t av;have ok:=Kc w t av;rw[Ag (ZY d (by decide))] at ok;obtain⟨y,c,aPx⟩:=w0.pb.ltm;have i:=Br.Fk aPx;by_cases e:0<b.tm.length;.rw[if_pos e];obtain⟨h1,x,f,p,l⟩:=aJV (n:=n) (av:=av) w0.pb (ge (by omega)) ht v (λm hm=>by omega);refine⟨h1,x,?_,p,Kw (id:=h.length+1) (by simp) .refl l.oA⟩;rw[Ac,K8,xD];simp only[Fs,Ct,d] at f ok c;simp only[abS,Nat.reduceLeDiff,↓reduceIte,B6,Ct,ok.call,d,show¬(6:Int)=5 by decide,show¬(6:Int)=4 by decide,c,i,show(0:Int)<(b.tm.length:Int) by omega,f.call]
  .rw[if_neg e];obtain⟨h1,x,f,p,l⟩:=Î w0.pb;refine⟨h1,x,?_,p,Kw (id:=h.length+1) (by simp) .refl l.oA⟩;rw[Ac,K8,xD];simp only[Fs,Ct,d] at f ok c;simp only[abS,Nat.reduceLeDiff,↓reduceIte,B6,Ct,ok.call,d,show¬(6:Int)=5 by decide,show¬(6:Int)=4 by decide,c,i,show¬(0:Int)<(b.tm.length:Int) by omega,f.call]
 rw[if_neg d];by_cases e:t.k=2;.rw[if_pos e];exact tZ (n:=n) w g ht v e
 rw[if_neg e];by_cases q:t.k=3;.rw[if_pos q];exact oG (n:=n) w g ht v q
 .rw[if_neg q];exact oH w (by have:=EB.1 j;unfold Dv.ok at this;omega)
end
section
variable{h h':Ae}{ar n x:Int}{ps:List PN}{A:Ar}
def aJW{a n:Nat}{m:Option Nat}(w:PA h a n m ps A)(d:Nz A)(hd:A.has x/\(A.nd x).kind=1)(q:Bool):
  ∃h' O9,Cj cx 60 [.ptr (some (a,0)),.int .i64 x,.bool q] h (.int .i64 0) h'/\PA h' a n m O9 (A.set x {A.nd x with DH:=q})/\Ey h (λi=>i∈FH a n m ps) h' (λi=>i∈FH a n m O9):=by
 have hp:=(w.pn hd.1).2.1;obtain⟨h2,e,c,j,f,g⟩:=w.wr hd.1 (k:=10) (by decide) (v:= .bool q) rfl (p:=⟨{A.nd x with DH:=q},(pN ps x).kv,(pN ps x).av,by rw[<-hp];exact(pN ps x).ok⟩) (by simp only[PN.row];rw[hp];rfl) rfl rfl;refine⟨h2,_,?_,c,w.c_ c j f g⟩;rw[Ac,yl,t60];simp only[abS,(nB (x:=x) w d).call,if_pos hd.1,if_pos hd.2,ne_eq,CK,(IN w d hd.1).call,e]
def i6(nm Ke sys:Ad)(d:Int):PN:=⟨{kind:=3,CB:=d,name:=nm,Ke:=Ke,sys:=sys},.slnil,.slnil,rfl⟩
def aJX{a n:Nat}{m:Option Nat}{nm Ke sys:Ad}(w:PA h a n m ps A)(f:Nz A)(hb:A.len+1<=1000000000)(hd:A.has x/\(A.nd x).kind=1):
  ∃h',Cj cx 62 [.ptr (some (a,0)),.int .i64 x,.str nm,.str Ke,.str sys] h (.tuple [.int .i64 (A.len+1),.int .i64 0]) h'/\PA h' a h.length m (ps++[i6 nm Ke sys x]) (A.add (i6 nm Ke sys x).x)/\(∀i,i<h.length->i≠a->i≠n->h'[i]?=h[i]?)/\h'.length=h.length+1:=by
 have dE:=w.len;obtain⟨h1,c,d,e,l1⟩:=H_ w (by omega) (i6 nm Ke sys x) rfl rfl;have r2:Cj cx 101 [.ptr (some (a,0)),.int .i64 x,.agg (i6 nm Ke sys 0).row] h (.tuple [.int .i64 (A.len+1),.int .i64 0]) h1:=by rw[PN.row] at c;rw[Ac,fK,Ō,PN.row];simp only[abS,(nB (x:=x) w f).call,if_pos hd.1,if_pos hd.2,ne_eq,CK,i6] at c⊢;simp only[Ce,c.call]
 refine⟨h1,?_,d,e,l1⟩;simp only[PN.row,i6] at r2;rw[Ac,ym,t62];simp only[abS,Nat.reduceLeDiff,↓reduceIte,B6,r2.call]
end
section
variable{h h':Ae}{bi:Nat}{b b':BS}{F:Nat->Prop}{n o a:Nat}{t:Dv}{av:Aa}
def ã(w:PB h bi b F)(g:Gz b n o a):∃ar,Bg h none (.ptr (some (bi,0)))=some (.ptr (some (ar,0)))/\FA h F 60 [.ptr (some (ar,0)),.int .i64 b.CB,tt] (.int .i64 0) bi b.Sv:=by
 obtain⟨ar,j,c,d,G,w,hc,rfl⟩:=w;obtain⟨h',k,r,w',x'⟩:=w.step (A':=b.Sv.a) (R:=λh'=>Cj cx 60 [.ptr (some (ar,0)),.int .i64 b.CB,tt] h (.int .i64 0) h') λn m ps f=>by obtain⟨h1,ZP,r,i,e⟩:=aJW f g.rm.WB g.ok.CB true;exact⟨h1,n,m,ZP,r,i,e⟩
 exact⟨ar,w.l0,h',_,r,⟨ar,j,c,d,k,w',hc,rfl⟩,x'⟩
def aPy(w:PB h bi b F)(g:Gz b (n+1) o a)(nm Ke sys:Ad):∃ar,Bg h none (.ptr (some (bi,0)))=some (.ptr (some (ar,0)))/\FA h F 62 [.ptr (some (ar,0)),.int .i64 b.CB,.str nm,.str Ke,.str sys] (.tuple [.int .i64 (b.a.len+1),.int .i64 0]) bi {b with a:=b.a.add (i6 nm Ke sys b.CB).x}:=by
 obtain⟨ar,i,c,d,G,w,hc,rfl⟩:=w;obtain⟨h',k,r,w',x'⟩:=w.step (A':=b.a.add (i6 nm Ke sys b.CB).x) (R:=λh'=>Cj cx 62 [.ptr (some (ar,0)),.int .i64 b.CB,.str nm,.str Ke,.str sys] h (.tuple [.int .i64 (b.a.len+1),.int .i64 0]) h') λn m ps e=>by obtain⟨h1,r,f,j,l1⟩:=aJX (nm:=nm) (Ke:=Ke) (sys:=sys) e g.rm.WB (by have:=g.rm.n;unfold Ar.len;omega) g.ok.CB;exact⟨h1,_,_,_,r,f,e.Rf rfl j l1⟩
 exact⟨ar,w.l0,h',_,r,⟨ar,i,c,d,k,w',hc,rfl⟩,x'⟩
end
section
variable{h h':Ae}{bi:Nat}{b b':BS}{F:Nat->Prop}{n o a:Nat}{t:Dv}{av:Aa}
def aF4(w:PB h bi b F)(g:Gz b n o a){e:Int}(ok:Fl b.a e)(p x k:Int):∃f d,Bg h none (.ptr (some (bi,0)))=some (.ptr (some (f,0)))/\FA h F 63 [.ptr (some (f,0)),.int .i64 p,.int .i64 x,.int .i64 k] (.int .i64 d) bi {b with a:=b.a.Ip p x k}:=by
 obtain⟨f,s,c,i,G,w,hc,rfl⟩:=w;obtain⟨h',u,⟨d,r⟩,w',x'⟩:=w.step (A':=b.a.Ip p x k) (R:=λh'=>∃d,Cj cx 63 [.ptr (some (f,0)),.int .i64 p,.int .i64 x,.int .i64 k] h (.int .i64 d) h') λn m ps l=>by obtain⟨d,h1,ZP,r,q,j⟩:=aBH (p:=p) (x:=x) (b:=k) l g.rm.WB ok;exact⟨h1,n,m,ZP,⟨d,r⟩,q,j⟩
 exact⟨f,d,w.l0,h',_,r,⟨f,s,c,i,u,w',hc,rfl⟩,x'⟩
def aPz{qk:Dv->Bool}(w:PB h bi b F)(g:Gz b (n+5) o a)(ht:t.Sm)(S:Bj t.Aq av)(hq:∀h,Cj cx 64 [.agg (Ct t av)] h (.bool (qk t)) h):FA h F 43 [.ptr (some (bi,0)),.agg (Ct t av)] (.bool (b.Ls qk t).2) bi (b.Ls qk t).1:=by
 have B3:=w.B3;unfold BS.Ls;by_cases B:¬t.ok;.rw[if_pos B];have c:=Kc w t av;rw[Ak B] at c;refine⟨_,_,?_,w,.refl⟩;rw[Ac,Sq,t43];simp only[abS,↓reduceIte,c.call]
 rw[if_neg B];have c:=Kc w t av;rw[Ag (EB.1 B)] at c;by_cases A:t.Ju;.rw[if_pos A];have d:=TS t av h;rw[Ag A] at d;refine⟨_,_,?_,w,.refl⟩;rw[Ac,Sq,t43];simp only[abS,↓reduceIte,c.call,d.call]
 rw[if_neg A];have d:=TS t av h;rw[Ak A] at d;by_cases z:t.k=4;.rw[if_pos z];obtain⟨h1,L,l,j,i⟩:=Mw (s:=t.data) w (g.dn (n':=n+1) (by omega)) (by have:=ht.data;omega) b.CB;refine⟨_,_,?_,j,i⟩;rw[Ac,Sq,t43];simp only[abS,↓reduceIte,c.call,d.call,BA z,B3,l.call]
 rw[if_neg z];by_cases f:t.k=1;rotate_left;.rw[if_pos f];obtain⟨R,v,h1,L,l,j,i⟩:=ã w g;obtain⟨h2,K,r2,u,r⟩:=tS j 2;refine⟨_,_,?_,u,i.trans r⟩;rw[Ac,Sq,t43];simp only[abS,↓reduceIte,c.call,d.call,z,ne_eq,eq_false f,AS,v,B3,l.call,r2.call,BS.again]
 rw[if_neg (by simp[f])];have hd:=g.ok.CB;have hx:rU {kind:=3,CB:=b.CB,name:=t.name,Ke:=t.Ke,sys:=t.sys}:=by constructor<;>simp[Di,Gu,eX]
 have Zl:=Qm g.ok.ok hx (.inr ⟨by simp,hd⟩) rfl rfl rfl rfl (λh=>absurd h.1 (show¬(3:Int)=4 by decide));obtain⟨R,v,h1,L,l,j,i⟩:=aPy w (g.dn (n':=n+1) (by omega)) t.name t.Ke t.sys;have g1:Gz {b with a:=b.a.add (i6 t.name t.Ke t.sys b.CB).x} n o a:=⟨g.ok.IK Zl Qn,(g.dn (n':=n+1) (by omega)).rm.F8 (LJ (y:={kind:=3,CB:=b.CB,name:=t.name,Ke:=t.Ke,sys:=t.sys}) (by simp) (by simp)),g.Au,g.AW⟩;obtain⟨Q,T,q,h2,K,r2,u,r⟩:=aF4 j g1 (e:=0) Zl b.CB (b.a.len+1) 0;have l1:=j.B3;have P:=u.B3;have g2:Gz (b.RR t) n o a:=(g.dn (n':=n+1) (by omega)).RR;have p:PB h2 bi (b.RR t) K:=u;have m:=hq h2;dsimp only;cases J:qk t with
 |true=>rw[J] at m;rw[if_pos rfl];obtain⟨I,H,h3,U,O,N,M⟩:=ã p g2;have G:Cj cx 60 [.ptr (some (I,0)),.int .i64 b.CB,tt] h2 (.int .i64 0) h3:=O;obtain⟨E,D,C⟩:=Gk N 2;refine⟨_,_,?_,D,((i.trans r).trans M).trans C⟩;rw[Ac,Sq,t43];simp only[Ct,f] at c d m;simp only[abS,↓reduceIte,c.call,d.call,show¬(1:Int)=4 by decide,f,Ct,ne_eq,AP,v,B3,l.call,q,l1,r2.call,m.call,H,P,G.call,E]
 |false=>rw[J] at m;rw[if_neg (by simp)];obtain⟨E,D,C⟩:=Gk p 2;refine⟨_,_,?_,D,(i.trans r).trans C⟩;rw[Ac,Sq,t43];simp only[Ct,f] at c d m;simp only[abS,↓reduceIte,c.call,d.call,show¬(1:Int)=4 by decide,f,Ct,ne_eq,AP,v,B3,l.call,q,l1,r2.call,m.call,E]
end
section
variable{h h':Ae}{bi:Nat}{b b':BS}{F:Nat->Prop}{n o a:Nat}{t:Dv}{av:Aa}
def Kx{es:List (Aa×Aa)}{k:Int}{v:Aa}(e:ID k es 0=some none):D5 .Uc (h++[.map es]) [.map (some h.length),.int .i64 k,v]=some (h++[.map (es++[(.int .i64 k,v)])],tt):=by simp[D5,vB,e]
def Zn(k:Nat):Aa:= .func (.func k) [] []
def Ky:List (Aa×Aa):=[(I 1,Zn 43),(I 2,Zn 44),(I 3,Zn 45),(I 4,Zn 46),(I 5,Zn 47),(I 6,Zn 48),(I 7,Zn 49),(I 8,Zn 50),(I 18,Zn 51)]
def aJY(h:Ae):Cj cx 35 [] h (.map (some h.length)) (h++[.map Ky]):=by have m:=Kx (h:=h) (es:=Ky.take 0) (k:=1) (v:=Zn 43) rfl;have l:=Kx (h:=h) (es:=Ky.take 1) (k:=2) (v:=Zn 44) rfl;have j:=Kx (h:=h) (es:=Ky.take 2) (k:=3) (v:=Zn 45) rfl;have i:=Kx (h:=h) (es:=Ky.take 3) (k:=4) (v:=Zn 46) rfl;have g:=Kx (h:=h) (es:=Ky.take 4) (k:=5) (v:=Zn 47) rfl;have f:=Kx (h:=h) (es:=Ky.take 5) (k:=6) (v:=Zn 48) rfl;have e:=Kx (h:=h) (es:=Ky.take 6) (k:=7) (v:=Zn 49) rfl;have d:=Kx (h:=h) (es:=Ky.take 7) (k:=8) (v:=Zn 50) rfl;have c:=Kx (h:=h) (es:=Ky.take 8) (k:=18) (v:=Zn 51) rfl;simp only[Ky,Zn,M7,PE,Bw,Cr] at m l j i g f e d c;rw[Ac,yf,t35];simp only[Ce,m,l,j,i,g,f,e,d,c,Ky,Zn]
def oI{es:List (Aa×Aa)}{k:Int}{r:Option (Nat×Aa)}(e:ID k es 0=some r):D5 (.ij .nilFunc true) (h++[.map es]) [.map (some h.length),.int .i64 k]=some (h++[.map es],Uf .nilFunc true r):=by simp[D5,j0,e]
def Pj(w:PB h bi b F)(hk:t.ok){i k:Nat}{r:Bool}(e:ID b.mode Ky 0=some (some (i,Zn k)))(f:k<=99999)(d:FA (h++[.map Ky]) F k [.ptr (some (bi,0)),.agg (Ct t av)] (.bool r) bi b'):FA h F 17 [.ptr (some (bi,0)),.agg (Ct t av)] (.bool r) bi b':=by obtain⟨h2,p,r2,l,j⟩:=d;have B3:=w.B3;have c:=(w.J9 (u:=[.map Ky])).B3;have g:=Kc w t av;rw[Ag hk] at g;have m:=oI (h:=h) e;refine⟨h2,p,?_,l,Ey.trans ⟨by simp,λi hi _=>Ah hi,λ_ hf=> .inl hf⟩ j⟩;rw[Ac,fG,t17];simp only[abS,↓reduceIte,g.call,B3,(aJY h).call,c,Dn,m,Uf,Zn,CD,A8,f,r2.call]
def aF5(w:PB h bi b F)(hk:t.ok)(e:ID b.mode Ky 0=some none):FA h F 17 [.ptr (some (bi,0)),.agg (Ct t av)] ff bi b:=by have B3:=w.B3;have d:=w.J9 (u:=[.map Ky]);have c:=d.B3;have f:=Kc w t av;rw[Ag hk] at f;have g:=oI (h:=h) e;refine⟨_,F,?_,d,⟨by simp,λi hi _=>Ah hi,λ_ hf=> .inl hf⟩⟩;rw[Ac,fG,t17];simp only[abS,↓reduceIte,f.call,B3,(aJY h).call,c,Dn,g,Uf]
def aF6{qk:Dv->Bool}(w:PB h bi b F)(g:Gz b (n+8*(4*(o+a+8)+10)+8*a+2000) o a)(ht:t.Sm)(d:Bj t.Aq av)(hq:∀h,Cj cx 64 [.agg (Ct t av)] h (.bool (qk t)) h)(ho:b.mode=6->M3 b)(hf:b.mode=18->∀h',PB h' bi b F->∀m,t.k=2->FA h' F 83 [.ptr (some (bi,0)),.int .i64 m] tt bi (b.EZ m).1):FA h F 17 [.ptr (some (bi,0)),.agg (Ct t av)] (.bool (b.apply qk t).2) bi (b.apply qk t).1:=by
 have ge:∀{m},m<=n+8*(4*(o+a+8)+10)+8*a+2000->Gz b m o a:=λh=>g.dn h;have c:=w.J9 (u:=[.map Ky]);unfold BS.apply;by_cases v:¬t.ok;.rw[if_pos v];have x:=Kc w t av;rw[Ak v] at x;refine⟨_,_,?_,w,.refl⟩;rw[Ac,fG,t17];simp only[abS,↓reduceIte,x.call]
 rw[if_neg v];have hk:=EB.1 v;by_cases s:b.mode=1;.rw[if_pos s];exact Pj w hk (i:=0) (k:=43) (by rw[s];rfl) (by decide) (aPz (n:=n) c (ge (by omega)) ht d hq)
 rw[if_neg s];by_cases r:b.mode=2;.rw[if_pos r];exact Pj w hk (i:=1) (k:=44) (by rw[r];rfl) (by decide) (aOV (n:=n) c (ge (by omega)) ht d)
 rw[if_neg r];by_cases q:b.mode=3;.rw[if_pos q];exact Pj w hk (i:=2) (k:=45) (by rw[q];rfl) (by decide) (aOW (n:=n) c (ge (by omega)) ht d (λhs=>Rl (n:=n) c (ge (by omega)) ht d hs))
 rw[if_neg q];by_cases p:b.mode=4;.rw[if_pos p];exact Pj w hk (i:=3) (k:=46) (by rw[p];rfl) (by decide) (iX (n:=n) c (ge (by omega)) ht d (λhs=>Rl (n:=n) c (ge (by omega)) ht d hs))
 rw[if_neg p];by_cases l:b.mode=5;.rw[if_pos l];exact Pj w hk (i:=4) (k:=47) (by rw[l];rfl) (by decide) (aOX (n:=n) c (ge (by omega)) ht d (λhs=>Rl (n:=n) c (ge (by omega)) ht d hs))
 rw[if_neg l];by_cases e:b.mode=6;.rw[if_pos e];exact Pj w hk (i:=5) (k:=48) (by rw[e];rfl) (by decide) (aOZ (n:=n) c (ge (by omega)) ht d (ho e) (λhs=>Rl (n:=n) c (ge (by omega)) ht d hs))
 rw[if_neg e];by_cases j:b.mode=7;.rw[if_pos j];exact Pj w hk (i:=6) (k:=49) (by rw[j];rfl) (by decide) (aPw (n:=n) c g ht d)
 rw[if_neg j];by_cases f:b.mode=8;.rw[if_pos f];exact Pj w hk (i:=7) (k:=50) (by rw[f];rfl) (by decide) (aO0 (n:=n) c (ge (by omega)) ht d)
 rw[if_neg f];by_cases oF:b.mode=18;.rw[if_pos oF];exact Pj w hk (i:=8) (k:=51) (by rw[oF];rfl) (by decide) (aJV (n:=n) c (ge (by omega)) ht d (hf oF _ c))
 rw[if_neg oF];exact aF5 w hk (by simp only[Ky,ID,s,r,q,p,l,e,j,f,oF,DU])
end
end Go.Am
end
