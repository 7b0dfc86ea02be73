/- Lemmas -/
import Derived.Test.YtkaolmlpcamojaaGreatDoorC29
import Derived.Test.YtkaolmlpcamojaaGreatDoorC31
set_option linter.all false
set_option maxRecDepth 100000
section
namespace Go.Am
open Go
abbrev aTp:Ty:= .st [.int .i64,.str,.bool,.str,.bool,.str,.bool,.bool,.sl dv,.bool,.str,.int .i32]
section
variable{t:GD}{p:GD×Aa}{l:List (GD×Aa)}{v:Aa}
end
section
variable{h h':Ah}{bi wi:Nat}{b b':BS}{F F2:Nat->Prop}{n o a j m:Nat}{t:GD}{av v:Aa}
def Fin.gzF(f:Fin b (j+1)):Gz b (5000000*j+5000000) b.AN.length b.A6.length:=⟨f.ok,f.sz.rm.le Ab,Ag _,Ag _⟩
def aJq(s:EW)(hv:Bt s.Ay av){l:List QO}(ho:bX l v)(h:Ah):BL cx 5 [.agg (MA s av),v] h (.bool (decide (N9 l 40/\Vq s))) h:=by
 have c:BL cx 10 [v,I 40] h (.bool (decide (N9 l 40))) h:=f4 ho (m:=40) AM h;have e:=f5 s hv h;have Zg:av.cells=[av]:=AU.cells hv;rw[Ae,aGA,MA];by_cases d:N9 l 40
 .rw[As d] at c;by_cases f:Vq s;.rw[As f] at e;simp only[abS,c.Ac,e.Ac,d,f,qM,Dz]
  .rw[Ap f] at e;simp only[abS,c.Ac,e.Ac,d,f,aBy,DH]
 .rw[Ap d] at c;simp only[abS,c.Ac,d,Zn,DH]
abbrev Nf(rule:Int)(t:GD)(av:Aa):List Aa:= .int .i64 rule::C7 t av
def aJr(s:EW)(hv:Bt s.Ay av)(hl:DL s.Ay)(hn:s.name.length<=1000){l:List QO}(ho:bX l v)(hb:l.length<=40)(hq:∀x∈l,ly x.q){rule:Int}{ta:Aa}(C:ta.cells=[ta]){R:BS×Bool}(hm:B6 R.1 m)(hk:EJ R.1.a 0)
  (D:∀(h:Ah) (bi:Nat) (F:Nat->Prop),PB h bi (J7 s.b l) F->N7 h F 17 [.ptr (some (bi,0)),.agg (Nf rule t ta)] (.bool R.2) bi R.1)
  (hR:∀(h:Ah) (bi:Nat) (F:Nat->Prop),RB h bi (J7 s.b l) F->RZ h F 18 [.ptr (some (bi,0)),.agg (Nf rule t ta)] (.bool R.2) bi R.1):
  ∃h',BL cx 8 [.agg (MA s av),v,.agg (Nf rule t ta)] h tt h':=by
 obtain⟨h1,bi,wi,F,F2,f,w⟩:=f7w s hv hl hn ho Ab hq h;obtain⟨h2,H,g,w1,y⟩:=D h1 bi F w.p;obtain⟨B,r⟩:=w.prog w1 y;obtain⟨c,G,r2,A,d⟩:=hR h2 wi F2 B;have z:Ut c bi wi R.1 H G:=⟨w1.Dj λi hi=>d.old i (w1.lt hi) (r i hi),A,λi c E=>by
  rcases d.Bu i E with k|k
  .exact r i c k
  .have:=w1.lt c;omega⟩
 obtain⟨u,e⟩:=f8g z hm hk;have Zg:av.cells=[av]:=AU.cells hv;refine⟨c++u,?_⟩;rw[MA] at f;simp only[Nf,C7] at g r2;rw[Ae,aGB,MA];simp only[abS,Nat.reduceLeDiff,↓reduceIte,Nf,C7,C,Zg,f.Ac,g.Ac,r2.Ac,e.Ac];try(cases R.2<;>simp only[abS,e.Ac])
end
end Go.Am
end
