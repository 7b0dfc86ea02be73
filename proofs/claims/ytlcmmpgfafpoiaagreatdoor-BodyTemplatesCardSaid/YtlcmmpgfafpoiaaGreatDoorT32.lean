/- Lemmas -/
import Derived.Test.YtlcmmpgfafpoiaaGreatDoorT29
import Derived.Test.YtlcmmpgfafpoiaaGreatDoorT31
set_option linter.all false
set_option maxRecDepth 100000
section
namespace Go.Am
open Go
abbrev zu:Ty:= .st [.int .i64,.str,.bool,.str,.bool,.str,.bool,.bool,.sl dx,.bool,.str,.int .i32]
structure aEp(p:Gk×Aa):Prop where
 v:Bq p.1.Az p.2
 r: -2147483648<=p.1.r/\p.1.r<=2147483647
 n:p.1.Az.length<=maxLen
def Ž(r:List Aa)(h:aN zu r):∃p:Gk×Aa,r=Dm p.1 p.2/\aEp p:=by obtain⟨U,L,rfl,h1,h⟩:=CS h;obtain⟨T,K,rfl,h2,h⟩:=CS h;obtain⟨S,J,rfl,A,h⟩:=CS h;obtain⟨R,I,rfl,z,h⟩:=CS h;obtain⟨Q,H,rfl,y,h⟩:=CS h;obtain⟨P,G,rfl,x,h⟩:=CS h;obtain⟨O,F,rfl,w,h⟩:=CS h;obtain⟨N,E,rfl,u,h⟩:=CS h;obtain⟨M,D,rfl,a,h⟩:=CS h;obtain⟨vG,g,rfl,U8,h⟩:=CS h;obtain⟨j,f,rfl,Zm,h⟩:=CS h;obtain⟨i,e,rfl,c,h⟩:=CS h;obtain rfl:=P8 h;obtain⟨o,rfl,_⟩:=Ma h1;obtain⟨n,rfl⟩:=Mb h2;obtain⟨b3,rfl⟩:=Kx A;obtain⟨m,rfl⟩:=Mb z;obtain⟨b5,rfl⟩:=Kx y;obtain⟨k,rfl⟩:=Mb x;obtain⟨C,rfl⟩:=Kx w;obtain⟨B,rfl⟩:=Kx u;obtain⟨v,rfl,a⟩:=Uk a;obtain⟨l,a,hl,_⟩:=kZ Y9 a;obtain⟨d,rfl⟩:=Kx U8;obtain⟨b,rfl⟩:=Mb Zm;obtain⟨qO,rfl,T_⟩:=Ma c;refine⟨(⟨o,n,b3,m,b5,k,C,B,l,d,b,qO⟩,v),rfl,a,?_,hl⟩;have s:IntKind.i32.min= -2147483648:=rfl;have q:IntKind.i32.max=2147483647:=rfl;simp[Lit.wf,s,q] at T_;exact T_
def zw{v:Aa}(h:sE zu v):∃p:Gk×Aa,v= .agg (Dm p.1 p.2)/\aEp p:=by obtain⟨r,rfl,h⟩:=h;obtain⟨p,rfl,hp⟩:=Ž r h;exact⟨p,rfl,hp⟩
def saB(l:List A6):Bool:=decide (FC l)
def h9B{v:Aa}{l:List A6}(h:Ah)(hv:Bq l v):BK cx 11 [v] h (.bool (saB l)) h:=f9 hv h
section
variable{t:Gk}{p:Gk×Aa}{l:List (Gk×Aa)}{v:Aa}
def zx(h:t.Re saB=true)(hr: -2147483648<=t.r/\t.r<=2147483647):t.Sm:=by unfold Gk.Re at h;simp only[Bv,CL] at h;exact⟨Ab,(GH (p:=FC t.Az) h.2.2.2.2).Re,Ab,hr⟩
end
section
variable{h h':Ah}{bi wi:Nat}{b b':BS}{F F2:Nat->Prop}{n o a j m:Nat}{t:Gk}{av v:Aa}
def Fin.gzF(f:Fin b (j+1)):Gz b (5000000*j+5000000) b.AW.length b.A5.length:=⟨f.ok,f.sz.rm.le Ab,Ag _,Ag _⟩
def aJj(s:EX)(hv:Bq s.Az av){l:List QO}(ho:cC l v)(h:Ah):BK cx 5 [.agg (MC s av),v] h (.bool (decide (N6 l 40/\Vj s))) h:=by
 have c:BK cx 9 [v,I 40] h (.bool (decide (N6 l 40))) h:=f4 ho (m:=40) AU h;have e:=f5 s hv h;have Zh:av.cells=[av]:=AV.cells hv;rw[Ae,aGr,MC];by_cases d:N6 l 40
 .rw[As d] at c;by_cases f:Vj s;.rw[As f] at e;simp only[abS,c.Ac,e.Ac,d,f,Zf,Dx]
  .rw[Aq f] at e;simp only[abS,c.Ac,e.Ac,d,f,aBE,DH]
 .rw[Aq d] at c;simp only[abS,c.Ac,d,Zq,DH]
abbrev Nb(rule:Int)(t:Gk)(av:Aa):List Aa:= .int .i64 rule::Dm t av
def aJk(s:EX)(hv:Bq s.Az av)(hl:DP s.Az)(hn:s.name.length<=1000){l:List QO}(ho:cC l v)(hb:l.length<=40)(hq:∀x∈l,lp x.q){rule:Int}{c:Aa}(D:c.cells=[c]){R:BS×Bool}(hm:BZ R.1 m)(hk:EK R.1.a 0)
  (E:∀(h:Ah) (bi:Nat) (F:Nat->Prop),PB h bi (KO s.b l) F->Ui h F 17 [.ptr (some (bi,0)),.agg (Nb rule t c)] (.bool R.2) bi R.1)
  (hR:∀(h:Ah) (bi:Nat) (F:Nat->Prop),RB h bi (KO s.b l) F->MV h F 18 [.ptr (some (bi,0)),.agg (Nb rule t c)] (.bool R.2) bi R.1):
  ∃h',BK cx 8 [.agg (MC s av),v,.agg (Nb rule t c)] h tt h':=by
 obtain⟨h1,bi,wi,F,F2,g,w⟩:=f7w s hv hl hn ho Ab hq h;obtain⟨h2,I,k,w1,z⟩:=E h1 bi F w.p;obtain⟨C,y⟩:=w.prog w1 z;obtain⟨d,H,r2,B,e⟩:=hR h2 wi F2 C;have A:Ug d bi wi R.1 I H:=⟨w1.Dn λi hi=>e.old i (w1.lt hi) (y i hi),B,λi d G=>by
  rcases e.Bt i G with r|r
  .exact y i d r
  .have:=w1.lt d;omega⟩
 obtain⟨u,f⟩:=f8g A hm hk;have Zh:av.cells=[av]:=AV.cells hv;refine⟨d++u,?_⟩;rw[MC] at g;simp only[Nb,Dm] at k r2;rw[Ae,aGt,MC];simp only[abS,Nat.reduceLeDiff,↓reduceIte,Nb,Dm,D,Zh,g.Ac,k.Ac,r2.Ac,f.Ac];try(cases R.2<;>simp only[abS,f.Ac])
end
end Go.Am
end
