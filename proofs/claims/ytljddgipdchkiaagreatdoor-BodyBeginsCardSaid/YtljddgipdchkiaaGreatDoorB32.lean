/- Lemmas -/
import Derived.Test.YtljddgipdchkiaaGreatDoorB29
import Derived.Test.YtljddgipdchkiaaGreatDoorB31
set_option linter.all false
set_option maxRecDepth 100000
section
namespace Go.Am
open Go
abbrev wk:Ty:= .st [.int .i64,.str,.bool,.str,.bool,.str,.bool,.bool,.sl ax,.bool,.str,.int .i32]
structure aC3(p:HG×Aa):Prop where
 v:Br p.1.Az p.2
 r: -2147483648<=p.1.r/\p.1.r<=2147483647
 n:p.1.Az.length<=maxLen
def İ(r:List Aa)(h:Y9 wk r):∃p:HG×Aa,r=Dm p.1 p.2/\aC3 p:=by obtain⟨T,K,rfl,h1,h⟩:=CN h;obtain⟨S,J,rfl,h2,h⟩:=CN h;obtain⟨R,I,rfl,z,h⟩:=CN h;obtain⟨Q,H,rfl,y,h⟩:=CN h;obtain⟨P,G,rfl,x,h⟩:=CN h;obtain⟨O,F,rfl,w,h⟩:=CN h;obtain⟨N,E,rfl,u,h⟩:=CN h;obtain⟨M,D,rfl,s,h⟩:=CN h;obtain⟨L,C,rfl,a,h⟩:=CN h;obtain⟨tY,f,rfl,Vl,h⟩:=CN h;obtain⟨i,e,rfl,Z4,h⟩:=CN h;obtain⟨g,d,rfl,Ÿ,h⟩:=CN h;obtain rfl:=PY h;obtain⟨n,rfl,_⟩:=L0 h1;obtain⟨m,rfl⟩:=L1 h2;obtain⟨b3,rfl⟩:=Jz z;obtain⟨k,rfl⟩:=L1 y;obtain⟨b5,rfl⟩:=Jz x;obtain⟨j,rfl⟩:=L1 w;obtain⟨B,rfl⟩:=Jz u;obtain⟨A,rfl⟩:=Jz s;obtain⟨v,rfl,a⟩:=T0 a;obtain⟨l,a,hl,_⟩:=j1 YK a;obtain⟨c,rfl⟩:=Jz Vl;obtain⟨b,rfl⟩:=L1 Z4;obtain⟨pC,rfl,xk⟩:=L0 Ÿ;refine⟨(⟨n,m,b3,k,b5,j,B,A,l,c,b,pC⟩,v),rfl,a,?_,hl⟩;have q:IntKind.i32.min= -2147483648:=rfl;have o:IntKind.i32.max=2147483647:=rfl;simp[Lit.wf,q,o] at xk;exact xk
def wm{v:Aa}(h:qS wk v):∃p:HG×Aa,v= .agg (Dm p.1 p.2)/\aC3 p:=by obtain⟨r,rfl,h⟩:=h;obtain⟨p,rfl,hp⟩:=İ r h;exact⟨p,rfl,hp⟩
def saB(l:List A3):Bool:=decide (Fz l)
def h9B{v:Aa}{l:List A3}(h:Ah)(hv:Br l v):BH cx 11 [v] h (.bool (saB l)) h:=f9 hv h
section
variable{t:HG}{p:HG×Aa}{l:List (HG×Aa)}{v:Aa}
def wq(h:t.NT saB=true)(hr: -2147483648<=t.r/\t.r<=2147483647):t.Sm:=by unfold HG.NT at h;simp only[Bq,Cz] at h;exact⟨Ab,(HZ (p:=Fz t.Az) h.2.2.2.2).NT,Ab,hr⟩
def jc(h:t.NT saB=true):t.Gi.length<=AM:=by unfold HG.NT at h;simp only[Bq,Cz] at h;have:AM=140737488355328:=rfl;omega
end
section
variable{h h':Ah}{bi wi:Nat}{b b':BS}{F F2:Nat->Prop}{n o a j m:Nat}{t:HG}{av v:Aa}
def Fin.gzF(f:Fin b (j+1)):Gz b (5000000*j+5000000) b.AY.length b.A8.length:=⟨f.ok,f.sz.rm.le Ab,Ag _,Ag _⟩
def aHQ(s:ET)(hv:Br s.Az av){l:List QO}(ho:bB l v)(h:Ah):BH cx 5 [.agg (LZ s av),v] h (.bool (decide (NU l 40/\UK s))) h:=by
 have c:BH cx 9 [v,I 40] h (.bool (decide (NU l 40))) h:=f4 ho (m:=40) AX h;have e:=f5 s hv h;have WH:av.cells=[av]:=AU.cells hv;rw[Af,aE4,LZ];by_cases d:NU l 40
 .rw[AA d] at c;by_cases f:UK s;.rw[AA f] at e;simp only[abS,c.Ad,e.Ad,d,f,oU,Dp]
  .rw[Ay f] at e;simp only[abS,c.Ad,e.Ad,d,f,aAq,Dy]
 .rw[Ay d] at c;simp only[abS,c.Ad,d,YU,Dy]
abbrev Kp(rule:Int)(t:HG)(av:Aa):List Aa:= .int .i64 rule::Dm t av
def aAo(s:ET)(hv:Br s.Az av)(hl:DU s.Az)(hn:s.name.length<=1000){l:List QO}(ho:bB l v)(hb:l.length<=40)(hq:∀x∈l,g_ x.q){rule:Int}{c:Aa}(D:c.cells=[c]){R:BS×Bool}(hm:B6 R.1 m)(hk:EA R.1.a 0)
  (E:∀(h:Ah) (bi:Nat) (F:Nat->Prop),PB h bi (M3 s.b l) F->vw h F 17 [.ptr (some (bi,0)),.agg (Kp rule t c)] (.bool R.2) bi R.1)
  (hR:∀(h:Ah) (bi:Nat) (F:Nat->Prop),RB h bi (M3 s.b l) F->Zu h F 18 [.ptr (some (bi,0)),.agg (Kp rule t c)] (.bool R.2) bi R.1):
  ∃h',BH cx 8 [.agg (LZ s av),v,.agg (Kp rule t c)] h tt h':=by
 obtain⟨h1,bi,wi,F,F2,g,w⟩:=f7w s hv hl hn ho Ab hq h;obtain⟨h2,I,k,w1,z⟩:=E h1 bi F w.p;obtain⟨C,y⟩:=w.prog w1 z;obtain⟨d,H,r2,B,e⟩:=hR h2 wi F2 C;have A:TX d bi wi R.1 I H:=⟨w1.Df λi hi=>e.old i (w1.lt hi) (y i hi),B,λi d G=>by
  rcases e.Bt i G with r|r
  .exact y i d r
  .have:=w1.lt d;omega⟩
 obtain⟨u,f⟩:=f8g A hm hk;have WH:av.cells=[av]:=AU.cells hv;refine⟨d++u,?_⟩;rw[LZ] at g;simp only[Kp,Dm] at k r2;rw[Af,aE6,LZ];simp only[abS,Nat.reduceLeDiff,↓reduceIte,Kp,Dm,D,WH,g.Ad,k.Ad,r2.Ad,f.Ad];try(cases R.2<;>simp only[abS,f.Ad])
end
end Go.Am
end
