/- Lemmas -/
import Derived.Test.YtljddgipdchkiaaGreatDoorZ28
import Derived.Test.YtljddgipdchkiaaGreatDoorZ30
set_option linter.all false
set_option maxRecDepth 100000
section
namespace Go.Am
open Go
abbrev qb:Ty:= .st [.int .i64,.str,.bool,.str,.bool,.str,.bool,.bool,.sl wL,.bool,.str,.int .i32]
structure aEo(p:MD×Aa):Prop where
 v:Bz p.1.AA p.2
 r: -2147483648<=p.1.r/\p.1.r<=2147483647
 n:p.1.AA.length<=maxLen
def Đ(r:List Aa)(h:Y5 qb r):∃p:MD×Aa,r=I4 p.1 p.2/\aEo p:=by obtain⟨T,K,rfl,h1,h⟩:=CP h;obtain⟨S,J,rfl,h2,h⟩:=CP h;obtain⟨R,I,rfl,z,h⟩:=CP h;obtain⟨Q,H,rfl,y,h⟩:=CP h;obtain⟨P,G,rfl,x,h⟩:=CP h;obtain⟨O,F,rfl,w,h⟩:=CP h;obtain⟨N,E,rfl,u,h⟩:=CP h;obtain⟨M,D,rfl,s,h⟩:=CP h;obtain⟨L,C,rfl,a,h⟩:=CP h;obtain⟨oD,f,rfl,UZ,h⟩:=CP h;obtain⟨i,e,rfl,Zb,h⟩:=CP h;obtain⟨g,d,rfl,ŗ,h⟩:=CP h;obtain rfl:=PG h;obtain⟨n,rfl,_⟩:=LU h1;obtain⟨m,rfl⟩:=LV h2;obtain⟨b3,rfl⟩:=Kk z;obtain⟨k,rfl⟩:=LV y;obtain⟨b5,rfl⟩:=Kk x;obtain⟨j,rfl⟩:=LV w;obtain⟨B,rfl⟩:=Kk u;obtain⟨A,rfl⟩:=Kk s;obtain⟨v,rfl,a⟩:=TD a;obtain⟨l,a,hl,_⟩:=dL XZ a;obtain⟨c,rfl⟩:=Kk UZ;obtain⟨b,rfl⟩:=LV Zb;obtain⟨jU,rfl,qu⟩:=LU ŗ;refine⟨(⟨n,m,b3,k,b5,j,B,A,l,c,b,jU⟩,v),rfl,a,?_,hl⟩;have q:IntKind.i32.min= -2147483648:=rfl;have o:IntKind.i32.max=2147483647:=rfl;simp[Lit.wf,q,o] at qu;exact qu
def qc{v:Aa}(h:lK qb v):∃p:MD×Aa,v= .agg (I4 p.1 p.2)/\aEo p:=by obtain⟨r,rfl,h⟩:=h;obtain⟨p,rfl,hp⟩:=Đ r h;exact⟨p,rfl,hp⟩
def saB(l:List A6):Bool:=decide (Fz l)
def h9B{v:Aa}{l:List A6}(h:Ah)(hv:Bz l v):BZ cx 11 [v] h (.bool (saB l)) h:=f9 hv h
section
variable{t:MD}{p:MD×Aa}{l:List (MD×Aa)}{v:Aa}
def qd(h:t.QI saB=true)(hr: -2147483648<=t.r/\t.r<=2147483647):t.Sm:=by unfold MD.QI at h;simp only[Bx,CX] at h;exact⟨Ab,(J0 (p:=Fz t.AA) h.2.2.2.2).QI,Ab,hr⟩
end
section
variable{h h':Ah}{bi wi:Nat}{b b':BS}{F F2:Nat->Prop}{n o a j m:Nat}{t:MD}{av v:Aa}
def Fin.gzF(f:Fin b (j+1)):Gz b (5000000*j+5000000) b.AY.length b.Bb.length:=⟨f.ok,f.sz.rm.le Ab,Ag _,Ag _⟩
def aK1(s:EY)(hv:Bz s.AA av){l:List QO}(ho:ZJ l v)(h:Ah):BZ cx 5 [.agg (Mq s av),v] h (.bool (decide (NP l 40/\Us s))) h:=by
 have c:BZ cx 9 [v,I 40] h (.bool (decide (NP l 40))) h:=f4 ho (m:=40) A5 h;have e:=f5 s hv h;have X2:av.cells=[av]:=AV.cells hv;rw[Af,aGi,t5,Mq];by_cases d:NP l 40
 .rw[AI d] at c;by_cases f:Us s;.rw[AI f] at e;simp only[abS,c.Ad,e.Ad,d,f,jI,DV]
  .rw[AG f] at e;simp only[abS,c.Ad,e.Ad,d,f,ũ,Ec]
 .rw[AG d] at c;simp only[abS,c.Ad,d,Ya,Ec]
abbrev MV(rule:Int)(t:MD)(av:Aa):List Aa:= .int .i64 rule::I4 t av
def aK2(s:EY)(hv:Bz s.AA av)(hl:D1 s.AA)(hn:s.name.length<=1000){l:List QO}(ho:ZJ l v)(hb:l.length<=40)(hq:∀x∈l,zZ x.q){rule:Int}{c:Aa}(D:c.cells=[c]){R:BS×Bool}(hm:B9 R.1 m)(hk:EK R.1.a 0)
  (E:∀(h:Ah) (bi:Nat) (F:Nat->Prop),PB h bi (Lm s.b l) F->Did h F 17 [.ptr (some (bi,0)),.agg (MV rule t c)] (.bool R.2) bi R.1)
  (hR:∀(h:Ah) (bi:Nat) (F:Nat->Prop),RB h bi (Lm s.b l) F->pq h F 18 [.ptr (some (bi,0)),.agg (MV rule t c)] (.bool R.2) bi R.1):
  ∃h',BZ cx 8 [.agg (Mq s av),v,.agg (MV rule t c)] h tt h':=by
 obtain⟨h1,bi,wi,F,F2,g,w⟩:=f7w s hv hl hn ho Ab hq h;obtain⟨h2,I,k,w1,z⟩:=E h1 bi F w.p;obtain⟨C,y⟩:=w.prog w1 z;obtain⟨d,H,r2,B,e⟩:=hR h2 wi F2 C;have A:TA d bi wi R.1 I H:=⟨w1.Dj λi hi=>e.old i (w1.lt hi) (y i hi),B,λi d G=>by
  rcases e.Bw i G with r|r
  .exact y i d r
  .have:=w1.lt d;omega⟩
 obtain⟨u,f⟩:=f8g A hm hk;have X2:av.cells=[av]:=AV.cells hv;refine⟨d++u,?_⟩;rw[Mq] at g;simp only[MV,I4] at k r2;rw[Af,aGk,t8,Mq];simp only[abS,Nat.reduceLeDiff,↓reduceIte,MV,I4,D,X2,g.Ad,k.Ad,r2.Ad,f.Ad];try(cases R.2<;>simp only[abS,f.Ad])
end
section
variable{h h':Ah}{bi:Nat}{b b':BS}{F:Nat->Prop}{n o a:Nat}{t:MD}{av:Aa}
def aK3(w:PB h bi b F)(g:Gz b (n+5) o a)(ht:t.Sm)(hv:Bz t.AA av)(hl:t.AA.length<=1000000):Did h F 17 [Pt bi 0,.agg (MV 8 t av)] (.bool (b.JK t).2) bi (b.JK t).1:=by obtain⟨ZI,DG,ro⟩:=aKX hv hl;have c:=ro h;obtain⟨h2,F2,r,e,d⟩:=aP3 (n:=n) w g ht DG;refine⟨h2,F2,?_,e,d⟩;simp only[I4] at c r;rw[Af,aBg,t17];simp[abS,Nat.reduceLeDiff,↓reduceIte,I4,c.Ad,r.Ad]
def aK4(w:RB h bi b F)(g:Gz b (n+5) o a)(hm:Nm b.a)(ht:t.Sm)(hv:Bz t.AA av)(hl:t.AA.length<=1000000):pq h F 18 [Pt bi 0,.agg (MV 8 t av)] (.bool (b.JK t).2) bi (b.JK t).1:=by obtain⟨ZI,DG,ro⟩:=aKX hv hl;have c:=ro h;obtain⟨h2,F2,r,e,d⟩:=aP4 (n:=n) w g hm ht DG;refine⟨h2,F2,?_,e,d⟩;simp only[I4] at c r;rw[Af,aBh,t18];simp[abS,Nat.reduceLeDiff,↓reduceIte,I4,c.Ad,r.Ad]
end
def aEp(s:EY){av:Aa}(hv:Bz s.AA av){l:List QO}{v:Aa}(ho:ZJ l v)(hr:∀x∈l,-2147483648<=x.q.r/\x.q.r<=2147483647){p:MD×Aa}(hp:aEo p):Ev cx 4 [.agg (Mq s av),v,.agg (I4 p.1 p.2)] [] λr _=>r= .bool true:=by
 have d:=aK1 s hv ho [];rw[Mq] at d;have f:=aP6 (sa:=saB) (λh hv=>h9B h hv) hp.v [];simp only[I4] at f;have X2:av.cells=[av]:=AV.cells hv;have k:p.2.cells=[p.2]:=AV.cells hp.v;unfold Ev;rw[aGh,t4,Mq];by_cases c:NP l 40/\Us s;rotate_left;.rw[AG c] at d;simp only[abS,I4,d.Ad,oT.Bk rfl rfl];exact⟨_,rfl,rfl⟩
 rw[AI c] at d;cases e:p.1.QI saB with
 |false=>rw[e] at f;simp only[abS,I4,d.Ad,f.Ad,oT.Bk rfl rfl];exact⟨_,rfl,rfl⟩
 |true=>
 rw[e] at f;have hq:∀x∈l,zZ x.q:=λx hx=>(c.1.2 x hx).ok (hr x hx);have oN:Qk (Lm s.b l) (49+1):=TB (j:=50) (s.oN.le (by have:=c.1.1;omega)) hq;have ht:=qd e hp.r;have i:p.1.AA.length<=1000000:=by have:=(J0 (p:=Fz p.1.AA) (by unfold MD.QI at e;simp only[Bx] at e;exact e.2.2.2.2)).1;omega
 have g:=oN.HC.gzF;have g2:Gz ((Lm s.b l).JK p.1).1 (5000000*49+4999995) (Lm s.b l).AY.length (Lm s.b l).Bb.length:=Gz.JK g;obtain⟨h1,r2⟩:=aK2 (h:=[]) s hv c.2.2.QI (by have:=c.2.1;omega) ho (by have:=c.1.1;omega) hq k g2.rm g2.ok.ok
  (λh bi F w=>aK3 (n:=5000000*49+4999995) w g ht hp.v i) (λh bi F w=>aK4 (n:=5000000*49+4999995) w g oN.nm ht hp.v i)
 rw[Mq] at r2;simp only[MV,I4] at r2;have m:AB (.BF [I 0,I 0,S [],ff,S [],ff,S [],ff,ff,.slnil,ff,S [],.int .i32 0] [(0,1),(1,12)]) [I 8,.agg (I4 p.1 p.2)]=some (.agg (I 8::I4 p.1 p.2)):=rfl;simp only[I4] at m;simp only[abS,I4,X2,d.Ad,f.Ad,m,r2.Ad,oT.Bk rfl rfl];exact⟨_,rfl,rfl⟩
def đ:∀l,Vo [dK,.sl tOp,qb] l->Ev cx 4 l [] λr _=>r= .bool true:=by rintro _ ⟨a,_,rfl,ha,b,_,rfl,hb,d,_,rfl,hd,rfl⟩;obtain⟨s,av,rfl,hv⟩:=oP ha;obtain⟨l,ho,hr⟩:=px hb;obtain⟨p,rfl,hp⟩:=qc hd;exact aEp s hv ho hr hp
end Go.Am
end
