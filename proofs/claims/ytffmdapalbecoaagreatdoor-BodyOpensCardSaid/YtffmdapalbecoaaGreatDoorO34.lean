/- Lemmas -/
import Derived.Test.YtffmdapalbecoaaGreatDoorO32
import Derived.Test.YtffmdapalbecoaaGreatDoorO33
set_option linter.all false
namespace Go.Am
open Go
set_option maxRecDepth 100000
section
variable{h h':Ah}{bi:Nat}{b b':BS}{F:Nat->Prop}{n o a:Nat}{t:Fq}{av:Aa}
def aMt(w:PB h bi b F)(g:Gz b (n+8*(4*(o+a+8)+10)+8*a+2000) o a)(ht:t.Sm)(hv:AL t.Aj av)(hl:t.Aj.length<=1000000)(hk:t.k=2):Lu h F 16 [Pt bi 0,.agg (NV 7 t av)] (.bool (b.opens t).2) bi (b.opens t).1:=by obtain⟨fR,DR,ro⟩:=aLZ hv hl;have c:=ro h;obtain⟨h2,F2,r,e,d⟩:=bt (n:=n) w g ht DR hk;refine⟨h2,F2,?_,e,d⟩;simp only[Co] at c r;rw[Ad,aFE];simp[abS,Nat.reduceLeDiff,↓reduceIte,Co,c,r]
def aMu(w:RB h bi b F)(g:Gz b (n+8*(4*(o+a+8)+10)+8*a+2000) o a)(hm:Nm b.a)(ht:t.Sm)(hv:AL t.Aj av)(hl:t.Aj.length<=1000000)(hk:t.k=2):Ez h F 17 [Pt bi 0,.agg (NV 7 t av)] (.bool (b.opens t).2) bi (b.opens t).1:=by obtain⟨fR,DR,ro⟩:=aLZ hv hl;have c:=ro h;obtain⟨h2,F2,r,e,d⟩:=aMs (n:=n) w g hm ht DR hk;refine⟨h2,F2,?_,e,d⟩;simp only[Co] at c r;rw[Ad,aFF];simp[abS,Nat.reduceLeDiff,↓reduceIte,Co,c,r]
end
def Nl(nm:Ai)(l:List A9)(sc:Bool):Fq:=⟨2,nm,false,[],false,[],false,false,l,sc,[],0⟩
def vi(s:Fg){av:Aa}(hv:AL s.Aj av){l:List QO}{v:Aa}(ho:fS l v)(hr:∀x∈l,-2147483648<=x.q.r/\x.q.r<=2147483647)(nm:Ai){f:List A9}{k:Aa}(ha:AL f k)(sc:Bool):Ev cx 3 [.agg (Nc s av),v,.str nm,k,.bool sc] [] λr _=>r= .bool true:=by
 have i:=aL3 s hv ho [];rw[Nc] at i;have m:=f455 (t:=Nl nm f sc) (sa:=saB) (λh hv=>h9B h hv) ha [];simp only[Co,Nl] at m;have bJ:av.cells=[av]:=AX.cells hv;have c:k.cells=[k]:=AX.cells ha;unfold Ev;rw[aJd,Nc];by_cases e:ON l 40/\WI s;rotate_left;.rw[Al e] at i;simp only[abS,Nat.reduceLeDiff,↓reduceIte,AQ,c,i,bz.BM rfl rfl];exact⟨_,rfl,rfl⟩
 rw[As e] at i;cases d:(Nl nm f sc).Ss saB with
 |false=>simp only[Nl] at d;rw[d] at m;simp only[abS,Nat.reduceLeDiff,↓reduceIte,AQ,c,i,m,bz.BM rfl rfl];exact⟨_,rfl,rfl⟩
 |true=>
 have u:(Nl nm f sc).Aj.length<=1000000:=by have:=(DP (p:=FV (Nl nm f sc).Aj) (by unfold Fq.Ss at d;simp only[Bq] at d;exact d.2.2.2.2)).1;omega
 have ht:=ģ d (Bf:(-2147483648:Int)<=0/\(0:Int)<=2147483647);simp only[Nl] at d;rw[d] at m;have hq:∀x∈l,ug x.q:=λx hx=>(e.1.2 x hx).ok (hr x hx);have pA:RP (Kw s.b l) (49+1):=VJ (j:=50) (s.pA.le (by have:=e.1.1;omega)) hq;have g:Gz (Kw s.b l) (5000000*49+800000+8*(4*((Kw s.b l).AI.length+(Kw s.b l).AW.length+8)+10)+8*(Kw s.b l).AW.length+2000) (Kw s.b l).AI.length (Kw s.b l).AW.length:=by have h1:=pA.sz.AI;have h2:=pA.sz.AW;exact pA.He.gzF.dn Ab
 have g2:=Gz.opens (n:=5000000*49+800000) g ht;obtain⟨h1,r2⟩:=aL4 (h:=[]) s hv e.2.2.Ss (by have:=e.2.1;omega) ho (by have:=e.1.1;omega) hq c g2.rm g2.ok.ok
  (λh bi F w=>aMt (n:=5000000*49+800000) w g ht ha u rfl) (λh bi F w=>aMu (n:=5000000*49+800000) w g pA.nm ht ha u rfl)
 rw[Nc] at r2;simp only[NV,Co,Nl] at r2;have y:AA (.EM [I 0,I 0,S [],ff,S [],ff,S [],ff,ff,.slnil,ff,S [],.int .i32 0] [(0,1),(1,12)]) [I 7,.agg (Co (Nl nm f sc) k)]=some (.agg (I 7::Co (Nl nm f sc) k)):=rfl;simp only[Co,Nl] at y;simp only[abS,Nat.reduceLeDiff,↓reduceIte,AQ,bJ,c,i,m,y,r2,bz.BM rfl rfl];exact⟨_,rfl,rfl⟩
def cr{v:Aa}(h:xJ (.sl UA) v):∃l:List A9,AL l v:=by obtain⟨l,hv,_⟩:=pF aY (show cC (.sl UA) [v] from h);exact⟨l,hv⟩
def ct:∀l,XC [pE,.sl tOp,.str,.sl UA,.bool] l->Ev cx 3 l [] λr _=>r= .bool true:=by
 rintro _ ⟨a,_,rfl,ha,b,_,rfl,hb,c,_,rfl,hc,d,_,rfl,hd,e,_,rfl,he,rfl⟩;obtain⟨s,av,rfl,hv⟩:=bn ha;obtain⟨l,ho,hr⟩:=ė hb;obtain⟨nm,rfl⟩:∃s:Ai,c= .str s:=by obtain⟨s,e⟩:=RJ (r:=[c]) hc;exact⟨s,by simpa using e⟩
 obtain⟨f,VV⟩:=cr hd;obtain⟨q,rfl⟩:∃q,e= .bool q:=by obtain⟨n,e⟩:=Q5 (show cC .bool [e] from he);exact⟨n,by simpa using e⟩
 exact vi s hv ho hr nm VV q
end Go.Am
