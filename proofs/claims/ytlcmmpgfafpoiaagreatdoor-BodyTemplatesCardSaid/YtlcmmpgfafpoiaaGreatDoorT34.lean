/- Lemmas -/
import Derived.Test.YtlcmmpgfafpoiaaGreatDoorT32
import Derived.Test.YtlcmmpgfafpoiaaGreatDoorT33
set_option linter.all false
namespace Go.Am
open Go
set_option maxRecDepth 100000
section
variable{h h':Ah}{bi:Nat}{b b':BS}{F:Nat->Prop}{n o a:Nat}{t:Gk}{av:Aa}
def aJs(w:PB h bi b F)(g:Gz b (n+4*a+1005) o a)(ht:t.Sm)(hv:Bq t.Az av)(hl:t.Az.length<=1000000):Ui h F 17 [Pt bi 0,.agg (Nb 9 t av)] (.bool (b.EY t).2) bi (b.EY t).1:=by obtain⟨cB,DL,ro⟩:=aJf hv hl;have c:=ro h;obtain⟨h2,F2,r,e,d⟩:=aN3 (n:=n) w g ht DL;refine⟨h2,F2,?_,e,d⟩;simp only[Dm] at c r;rw[Ae,aC5];simp[abS,Nat.reduceLeDiff,↓reduceIte,Dm,c.Ac,r.Ac]
def aJt(w:RB h bi b F)(g:Gz b (n+4*a+1005) o a)(hm:Nm b.a)(ht:t.Sm)(hv:Bq t.Az av)(hl:t.Az.length<=1000000):MV h F 18 [Pt bi 0,.agg (Nb 9 t av)] (.bool (b.EY t).2) bi (b.EY t).1:=by obtain⟨cB,DL,ro⟩:=aJf hv hl;have c:=ro h;obtain⟨h2,F2,r,e,d⟩:=aN7 (n:=n) w g hm ht DL;refine⟨h2,F2,?_,e,d⟩;simp only[Dm] at c r;rw[Ae,aC6];simp[abS,Nat.reduceLeDiff,↓reduceIte,Dm,c.Ac,r.Ac]
end
def ZU(s:EX){av:Aa}(hv:Bq s.Az av){l:List QO}{v:Aa}(ho:cC l v)(hr:∀x∈l,-2147483648<=x.q.r/\x.q.r<=2147483647){p:Gk×Aa}(hp:aEp p):Ev cx 4 [.agg (MC s av),v,.agg (Dm p.1 p.2)] [] λr _=>r= .bool true:=by
 have d:=aJj s hv ho [];rw[MC] at d;have f:=aN4 (sa:=saB) (λh hv=>h9B h hv) hp.v [];simp only[Dm] at f;have Zh:av.cells=[av]:=AV.cells hv;have i:p.2.cells=[p.2]:=AV.cells hp.v;unfold Ev;rw[aGq,MC];by_cases c:N6 l 40/\Vj s;rotate_left;.rw[Aq c] at d;simp only[abS,Dm,d.Ac,vW.B7 rfl rfl];exact⟨_,rfl,rfl⟩
 rw[As c] at d;cases e:p.1.Re saB with
 |false=>rw[e] at f;simp only[abS,Dm,d.Ac,f.Ac,vW.B7 rfl rfl];exact⟨_,rfl,rfl⟩
 |true=>
 rw[e] at f;have hq:∀x∈l,lp x.q:=λx hx=>(c.1.2 x hx).ok (hr x hx);have pX:QP (KO s.b l) (49+1):=Uh (j:=50) (s.pX.le (by have:=c.1.1;omega)) hq;have ht:=zx e hp.r;have k:p.1.Az.length<=1000000:=by have:=(GH (p:=FC p.1.Az) (by unfold Gk.Re at e;simp only[Bv] at e;exact e.2.2.2.2)).1;omega
 have g:Gz (KO s.b l) (5000000*49+800000+4*(KO s.b l).A5.length+1005) (KO s.b l).AW.length (KO s.b l).A5.length:=by have h2:=pX.sz.A5;exact pX.HG.gzF.dn Ab
 have g2:=Gz.EY (n:=5000000*49+800000) g ht;obtain⟨h1,r2⟩:=aJk (h:=[]) s hv c.2.2.Re (by have:=c.2.1;omega) ho (by have:=c.1.1;omega) hq i g2.rm g2.ok.ok
  (λh bi F w=>aJs (n:=5000000*49+800000) w g ht hp.v k) (λh bi F w=>aJt (n:=5000000*49+800000) w g pX.nm ht hp.v k)
 rw[MC] at r2;simp only[Nb,Dm] at r2;have m:AB (.Cn [I 0,I 0,S [],ff,S [],ff,S [],ff,ff,.slnil,ff,S [],.int .i32 0] [(0,1),(1,12)]) [I 9,.agg (Dm p.1 p.2)]=some (.agg (I 9::Dm p.1 p.2)):=rfl;simp only[Dm] at m;simp only[abS,Dm,Zh,i,d.Ac,f.Ac,m,r2.Ac,vW.B7 rfl rfl];exact⟨_,rfl,rfl⟩
def Zd:∀l,V6 [kY,.sl tOp,zu] l->Ev cx 4 l [] λr _=>r= .bool true:=by rintro _ ⟨a,_,rfl,ha,b,_,rfl,hb,d,_,rfl,hd,rfl⟩;obtain⟨s,av,rfl,hv⟩:=vS ha;obtain⟨l,ho,hr⟩:=zk hb;obtain⟨p,rfl,hp⟩:=zw hd;exact ZU s hv ho hr hp
end Go.Am
