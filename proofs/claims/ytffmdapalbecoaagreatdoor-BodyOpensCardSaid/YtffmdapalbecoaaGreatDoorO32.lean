/- Lemmas -/
import Derived.Test.YtffmdapalbecoaaGreatDoorO29
import Derived.Test.YtffmdapalbecoaaGreatDoorO31
set_option linter.all false
set_option maxRecDepth 100000
section
namespace Go.Am
open Go
abbrev aWs:Ty:= .st [.int .i64,.str,.bool,.str,.bool,.str,.bool,.bool,.sl UA,.bool,.str,.int .i32]
def saB(l:List A9):Bool:=decide (FV l)
def h9B{v:Aa}{l:List A9}(h:Ah)(hv:AL l v):BK cx 10 [v] h (.bool (saB l)) h:=f9 hv h
section
variable{t:Fq}{p:Fq×Aa}{l:List (Fq×Aa)}{v:Aa}
def ģ(h:t.Ss saB=true)(hr: -2147483648<=t.r/\t.r<=2147483647):t.Sm:=by unfold Fq.Ss at h;simp only[Bq,Cd] at h;exact⟨Ab,(DP (p:=FV t.Aj) h.2.2.2.2).Ss,Ab,hr⟩
end
section
variable{h h':Ah}{bi wi:Nat}{b b':BS}{F F2:Nat->Prop}{n o a j m:Nat}{t:Fq}{av v:Aa}
def Fin.gzF(f:Fin b (j+1)):Gz b (5000000*j+5000000) b.AI.length b.AW.length:=⟨f.ok,f.sz.rm.le Ab,Ae _,Ae _⟩
def aL3(s:Fg)(hv:AL s.Aj av){l:List QO}(ho:fS l v)(h:Ah):BK cx 4 [.agg (Nc s av),v] h (.bool (decide (ON l 40/\WI s))) h:=by
 have c:BK cx 8 [v,I 40] h (.bool (decide (ON l 40))) h:=f4 ho (m:=40) Bf h;have e:=f5 s hv h;have bJ:av.cells=[av]:=AX.cells hv;rw[Ad,aJe,Nc];by_cases d:ON l 40
 .rw[As d] at c;by_cases f:WI s;.rw[As f] at e;simp only[abS,c,e,d,f,vJ,DO]
  .rw[Al f] at e;simp only[abS,c,e,d,f,aEg,DX]
 .rw[Al d] at c;simp only[abS,c,d,bO,DX]
abbrev NV(rule:Int)(t:Fq)(av:Aa):List Aa:= .int .i64 rule::Co t av
def aL4(s:Fg)(hv:AL s.Aj av)(hl:DV s.Aj)(hn:s.name.length<=1000){l:List QO}(ho:fS l v)(hb:l.length<=40)(hq:∀x∈l,ug x.q){rule:Int}{c:Aa}(D:c.cells=[c]){R:BS×Bool}(hm:B0 R.1 m)(hk:E1 R.1.a 0)
  (E:∀(h:Ah) (bi:Nat) (F:Nat->Prop),PB h bi (Kw s.b l) F->Lu h F 16 [.ptr (some (bi,0)),.agg (NV rule t c)] (.bool R.2) bi R.1)
  (hR:∀(h:Ah) (bi:Nat) (F:Nat->Prop),RB h bi (Kw s.b l) F->Ez h F 17 [.ptr (some (bi,0)),.agg (NV rule t c)] (.bool R.2) bi R.1):
  ∃h',BK cx 7 [.agg (Nc s av),v,.agg (NV rule t c)] h tt h':=by
 obtain⟨h1,bi,wi,F,F2,g,w⟩:=f7w s hv hl hn ho Ab hq h;obtain⟨h2,I,k,w1,z⟩:=E h1 bi F w.p;obtain⟨C,y⟩:=w.prog w1 z;obtain⟨d,H,r2,B,e⟩:=hR h2 wi F2 C;have A:VI d bi wi R.1 I H:=⟨w1.Dj λi hi=>e.old i (w1.lt hi) (y i hi),B,λi d G=>by
  rcases e.Bu i G with r|r
  .exact y i d r
  .have:=w1.lt d;omega⟩
 obtain⟨u,f⟩:=f8g A hm hk;have bJ:av.cells=[av]:=AX.cells hv;refine⟨d++u,?_⟩;rw[Nc] at g;simp only[NV,Co] at k r2;rw[Ad,aJg,Nc];simp only[abS,Nat.reduceLeDiff,↓reduceIte,NV,Co,D,bJ,g,k,r2,f];try(cases R.2<;>simp only[abS,f])
end
end Go.Am
end
