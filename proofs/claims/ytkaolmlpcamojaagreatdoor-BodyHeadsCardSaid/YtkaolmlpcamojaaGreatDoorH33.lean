/- Lemmas -/
import Derived.Test.YtkaolmlpcamojaaGreatDoorH30
import Derived.Test.YtkaolmlpcamojaaGreatDoorH32
set_option linter.all false
set_option maxRecDepth 100000
section
namespace Go.Am
open Go
abbrev Ó:Ty:= .st [.int .i64,.str,.bool,.str,.bool,.str,.bool,.bool,.sl iw,.bool,.str,.int .i32]
structure aFi(p:FF×Aa):Prop where
 v:Bi p.1.Av p.2
 r: -2147483648<=p.1.r/\p.1.r<=2147483647
 n:p.1.Av.length<=maxLen
def aA2(r:List Aa)(h:Z8 Ó r):∃p:FF×Aa,r=Cl p.1 p.2/\aFi p:=by obtain⟨U,L,rfl,h1,h⟩:=CQ h;obtain⟨T,K,rfl,h2,h⟩:=CQ h;obtain⟨S,J,rfl,A,h⟩:=CQ h;obtain⟨R,I,rfl,z,h⟩:=CQ h;obtain⟨Q,H,rfl,y,h⟩:=CQ h;obtain⟨P,G,rfl,x,h⟩:=CQ h;obtain⟨O,F,rfl,w,h⟩:=CQ h;obtain⟨N,E,rfl,u,h⟩:=CQ h;obtain⟨M,D,rfl,a,h⟩:=CQ h;obtain⟨xL,g,rfl,VE,h⟩:=CQ h;obtain⟨j,f,rfl,aB,h⟩:=CQ h;obtain⟨i,e,rfl,c,h⟩:=CQ h;obtain rfl:=Qw h;obtain⟨o,rfl,_⟩:=LB h1;obtain⟨n,rfl⟩:=Mq h2;obtain⟨b3,rfl⟩:=KK A;obtain⟨m,rfl⟩:=Mq z;obtain⟨b5,rfl⟩:=KK y;obtain⟨k,rfl⟩:=Mq x;obtain⟨C,rfl⟩:=KK w;obtain⟨B,rfl⟩:=KK u;obtain⟨v,rfl,a⟩:=UR a;obtain⟨l,a,hl,_⟩:=mV ZE a;obtain⟨d,rfl⟩:=KK VE;obtain⟨b,rfl⟩:=Mq aB;obtain⟨sS,rfl,ê⟩:=LB c;refine⟨(⟨o,n,b3,m,b5,k,C,B,l,d,b,sS⟩,v),rfl,a,?_,hl⟩;have s:IntKind.i32.min= -2147483648:=rfl;have q:IntKind.i32.max=2147483647:=rfl;simp[Lit.wf,s,q] at ê;exact ê
def Ô{v:Aa}(h:oS Ó v):∃p:FF×Aa,v= .agg (Cl p.1 p.2)/\aFi p:=by obtain⟨r,rfl,h⟩:=h;obtain⟨p,rfl,hp⟩:=aA2 r h;exact⟨p,rfl,hp⟩
def saB(l:List A5):Bool:=decide (FB l)
def h9B{v:Aa}{l:List A5}(h:Ai)(hv:Bi l v):BG cx 12 [v] h (.bool (saB l)) h:=f9 hv h
section
variable{t:FF}{p:FF×Aa}{l:List (FF×Aa)}{v:Aa}
def Õ(h:t.RF saB=true)(hr: -2147483648<=t.r/\t.r<=2147483647):t.Sm:=by unfold FF.RF at h;simp only[Bv,CO] at h;exact⟨Ac,(GN (p:=FB t.Av) h.2.2.2.2).RF,Ac,hr⟩
end
section
variable{h h':Ai}{bi wi:Nat}{b b':BS}{F F2:Nat->Prop}{n o a j m:Nat}{t:FF}{av v:Aa}
def Fin.gzF(f:Fin b (j+1)):Gz b (5000000*j+5000000) b.AQ.length b.A6.length:=⟨f.ok,f.sz.rm.le Ac,Ag _,Ag _⟩
def aKi(s:EZ)(hv:Bi s.Av av){l:List QO}(ho:dH l v)(h:Ai):BG cx 5 [.agg (MT s av),v] h (.bool (decide (Oy l 40/\VO s))) h:=by
 have c:BG cx 10 [v,I 40] h (.bool (decide (Oy l 40))) h:=f4 ho (m:=40) AP h;have e:=f5 s hv h;have ZJ:av.cells=[av]:=AU.cells hv;rw[Ae,aHk,MT];by_cases d:Oy l 40
 .rw[Al d] at c;by_cases f:VO s;.rw[Al f] at e;simp only[abS,c.Ab,e.Ab,d,f,sC,Dw]
  .rw[Ah f] at e;simp only[abS,c.Ab,e.Ab,d,f,aCx,DG]
 .rw[Ah d] at c;simp only[abS,c.Ab,d,ZS,DG]
abbrev Nu(rule:Int)(t:FF)(av:Aa):List Aa:= .int .i64 rule::Cl t av
def aKj(s:EZ)(hv:Bi s.Av av)(hl:DO s.Av)(hn:s.name.length<=1000){l:List QO}(ho:dH l v)(hb:l.length<=40)(hq:∀x∈l,ou x.q){rule:Int}{c:Aa}(D:c.cells=[c]){R:BS×Bool}(hm:BM R.1 m)(hk:EM R.1.a 0)
  (E:∀(h:Ai) (bi:Nat) (F:Nat->Prop),PB h bi (LW s.b l) F->Rb h F 17 [.ptr (some (bi,0)),.agg (Nu rule t c)] (.bool R.2) bi R.1)
  (hR:∀(h:Ai) (bi:Nat) (F:Nat->Prop),RB h bi (LW s.b l) F->MW h F 18 [.ptr (some (bi,0)),.agg (Nu rule t c)] (.bool R.2) bi R.1):
  ∃h',BG cx 8 [.agg (MT s av),v,.agg (Nu rule t c)] h tt h':=by
 obtain⟨h1,bi,wi,F,F2,g,w⟩:=f7w s hv hl hn ho Ac hq h;obtain⟨h2,I,k,w1,z⟩:=E h1 bi F w.p;obtain⟨C,y⟩:=w.prog w1 z;obtain⟨d,H,r2,B,e⟩:=hR h2 wi F2 C;have A:UK d bi wi R.1 I H:=⟨w1.Dl λi hi=>e.old i (w1.lt hi) (y i hi),B,λi d G=>by
  rcases e.Bs i G with r|r
  .exact y i d r
  .have:=w1.lt d;omega⟩
 obtain⟨u,f⟩:=f8g A hm hk;have ZJ:av.cells=[av]:=AU.cells hv;refine⟨d++u,?_⟩;rw[MT] at g;simp only[Nu,Cl] at k r2;rw[Ae,aHm,MT];simp only[abS,Nat.reduceLeDiff,↓reduceIte,Nu,Cl,D,ZJ,g.Ab,k.Ab,r2.Ab,f.Ab];try(cases R.2<;>simp only[abS,f.Ab])
end
end Go.Am
end
