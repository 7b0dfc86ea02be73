/- Lemmas -/
import Derived.Test.YtljddgipdchkiaaGreatDoorB32
import Derived.Test.YtljddgipdchkiaaGreatDoorB33
set_option linter.all false
namespace Go.Am
open Go
set_option maxRecDepth 100000
section
variable{h h':Ah}{bi:Nat}{b b':BS}{F:Nat->Prop}{n o a:Nat}{t:HG}{av:Aa}
def aC6(w:PB h bi b F)(g:Gz b (n+5) o a)(ht:t.Sm)(hp:t.Gi.length<=AM)(hv:Br t.Az av)(hl:t.Az.length<=1000000):vw h F 17 [Pt bi 0,.agg (Kp 1 t av)] (.bool (b.Im PZ t).2) bi (b.Im PZ t).1:=by obtain⟨YT,DC,ro⟩:=Į hv hl;have c:=ro h;obtain⟨h2,F2,r,e,d⟩:=aMA (n:=n) w g ht DC (λh=>f75 t hp h);refine⟨h2,F2,?_,e,d⟩;simp only[Dm] at c r;rw[Af,q_];simp[abS,Nat.reduceLeDiff,↓reduceIte,Dm,c.Ad,r.Ad]
def aC7(w:RB h bi b F)(g:Gz b (n+5) o a)(hm:Nm b.a)(ht:t.Sm)(hp:t.Gi.length<=AM)(hv:Br t.Az av)(hl:t.Az.length<=1000000):Zu h F 18 [Pt bi 0,.agg (Kp 1 t av)] (.bool (b.Im PZ t).2) bi (b.Im PZ t).1:=by obtain⟨YT,DC,ro⟩:=Į hv hl;have c:=ro h;obtain⟨h2,F2,r,e,d⟩:=aMR (n:=n) w g hm ht hp DC;refine⟨h2,F2,?_,e,d⟩;simp only[Dm] at c r;rw[Af,rh];simp[abS,Nat.reduceLeDiff,↓reduceIte,Dm,c.Ad,r.Ad]
def aC8(w:PB h bi b F)(g:Gz b (n+5) o a)(ht:t.Sm)(hp:t.Gi.length<=AM)(hv:Br t.Az av)(hl:t.Az.length<=1000000):vw h F 17 [Pt bi 0,.agg (Kp 2 t av)] (.bool (b.EU t).2) bi (b.EU t).1:=by obtain⟨YT,DC,ro⟩:=Į hv hl;have c:=ro h;obtain⟨h2,F2,r,e,d⟩:=aMx (n:=n) w g ht DC;refine⟨h2,F2,?_,e,d⟩;simp only[Dm] at c r;rw[Af,q_];simp[abS,Nat.reduceLeDiff,↓reduceIte,Dm,c.Ad,r.Ad]
def aC9(w:RB h bi b F)(g:Gz b (n+5) o a)(hm:Nm b.a)(ht:t.Sm)(hp:t.Gi.length<=AM)(hv:Br t.Az av)(hl:t.Az.length<=1000000):Zu h F 18 [Pt bi 0,.agg (Kp 2 t av)] (.bool (b.EU t).2) bi (b.EU t).1:=by obtain⟨YT,DC,ro⟩:=Į hv hl;have c:=ro h;obtain⟨h2,F2,r,e,d⟩:=aMQ (n:=n) w g hm ht DC;refine⟨h2,F2,?_,e,d⟩;simp only[Dm] at c r;rw[Af,rh];simp[abS,Nat.reduceLeDiff,↓reduceIte,Dm,c.Ad,r.Ad]
end
def uN(s:ET){av:Aa}(hv:Br s.Az av){l:List QO}{v:Aa}(ho:bB l v)(hr:∀x∈l,-2147483648<=x.q.r/\x.q.r<=2147483647){p:HG×Aa}(hp:aC3 p)(q:Bool):Ev cx 3 [.agg (LZ s av),v,.agg (Dm p.1 p.2),.bool q] [] λr _=>r= .bool true:=by
 have e:=aHQ s hv ho [];rw[LZ] at e;have i:=aMI (sa:=saB) (λh hv=>h9B h hv) hp.v [];simp only[Dm] at i;have WH:av.cells=[av]:=AU.cells hv;have Ž:p.2.cells=[p.2]:=AU.cells hp.v;unfold Ev;rw[aE3,LZ];by_cases c:NU l 40/\UK s;rotate_left;.rw[Ay c] at e;simp only[abS,Dm,e.Ad,j6.BV rfl rfl];exact⟨_,rfl,rfl⟩
 rw[AA c] at e;cases f:p.1.NT saB with
 |false=>rw[f] at i;simp only[abS,Dm,e.Ad,i.Ad,j6.BV rfl rfl];exact⟨_,rfl,rfl⟩
 |true=>
 rw[f] at i;have hq:∀x∈l,g_ x.q:=λx hx=>(c.1.2 x hx).ok (hr x hx);have oP:QC (M3 s.b l) (49+1):=TY (j:=50) (s.oP.le (by have:=c.1.1;omega)) hq;have ht:=wq f hp.r;have d:p.1.Az.length<=1000000:=by have:=(HZ (p:=Fz p.1.Az) (by unfold HG.NT at f;simp only[Bq] at f;exact f.2.2.2.2)).1;omega
 have g:=oP.HC.gzF;have Vb:=jc f;cases q with
 |false=>
  have g2:=Gz.Im (qk:=PZ) g ht;obtain⟨h1,r2⟩:=aAo (h:=[]) s hv c.2.2.NT (by have:=c.2.1;omega) ho (by have:=c.1.1;omega) hq Ž g2.rm g2.ok.ok
   (λh bi F w=>aC6 (n:=5000000*49+4999995) w g ht Vb hp.v d) (λh bi F w=>aC7 (n:=5000000*49+4999995) w g oP.nm ht Vb hp.v d)
  rw[LZ] at r2;simp only[Kp,Dm] at r2;have k:AE (.Cm [I 0,I 0,S [],ff,S [],ff,S [],ff,ff,.slnil,ff,S [],.int .i32 0] [(0,1),(1,12)]) [I 1,.agg (Dm p.1 p.2)]=some (.agg (I 1::Dm p.1 p.2)):=rfl;simp only[Dm] at k;simp only[abS,Nat.reduceLeDiff,↓reduceIte,Dm,WH,Ž,e.Ad,i.Ad,k,r2.Ad,j6.BV rfl rfl];exact⟨_,rfl,rfl⟩
 |true=>
  have g2:=Gz.EU g ht;obtain⟨h1,r2⟩:=aAo (h:=[]) s hv c.2.2.NT (by have:=c.2.1;omega) ho (by have:=c.1.1;omega) hq Ž g2.rm g2.ok.ok
   (λh bi F w=>aC8 (n:=5000000*49+4999995) w g ht Vb hp.v d) (λh bi F w=>aC9 (n:=5000000*49+4999995) w g oP.nm ht Vb hp.v d)
  rw[LZ] at r2;simp only[Kp,Dm] at r2;have k:AE (.Cm [I 0,I 0,S [],ff,S [],ff,S [],ff,ff,.slnil,ff,S [],.int .i32 0] [(0,1),(1,12)]) [I 1,.agg (Dm p.1 p.2)]=some (.agg (I 1::Dm p.1 p.2)):=rfl;simp only[Dm] at k;simp only[abS,Nat.reduceLeDiff,↓reduceIte,Dm,WH,Ž,e.Ad,i.Ad,k,r2.Ad,j6.BV rfl rfl];exact⟨_,rfl,rfl⟩
def oT:∀l,VD [j0,.sl tOp,wk,.bool] l->Ev cx 3 l [] λr _=>r= .bool true:=by
 rintro _ ⟨a,_,rfl,ha,b,_,rfl,hb,d,_,rfl,hd,e,_,rfl,he,rfl⟩;obtain⟨s,av,rfl,hv⟩:=uJ ha;obtain⟨l,ho,hr⟩:=v_ hb;obtain⟨p,rfl,hp⟩:=wm hd;obtain⟨q,rfl⟩:∃q,e= .bool q:=by obtain⟨n,e⟩:=Jz (show Y9 .bool [e] from he);exact⟨n,by simpa using e⟩
 exact uN s hv ho hr hp q
end Go.Am
