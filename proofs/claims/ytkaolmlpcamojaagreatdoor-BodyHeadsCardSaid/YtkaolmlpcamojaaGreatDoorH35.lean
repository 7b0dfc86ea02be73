/- Lemmas -/
import Derived.Test.YtkaolmlpcamojaaGreatDoorH33
import Derived.Test.YtkaolmlpcamojaaGreatDoorH34
set_option linter.all false
namespace Go.Am
open Go
set_option maxRecDepth 100000
noncomputable def Ll(b:BS)(q:Int)(t:FF):BS×Bool:=if q=3 then b.FT t else if q=4 then b.DE t else if q=5 then b.FU t else b.HL t
section
variable{h h':Ai}{bi:Nat}{b b':BS}{F:Nat->Prop}{n o a:Nat}{t:FF}{av:Aa}{q:Int}
def m6:Ll b 3 t=b.FT t:=Af rfl
def m7:Ll b 4 t=b.DE t:=by unfold Ll;rw[Ad AP,Af rfl]
def m8:Ll b 5 t=b.FU t:=by unfold Ll;rw[Ad AP,Ad AP,Af rfl]
def m9:Ll b 6 t=b.HL t:=by unfold Ll;rw[Ad AP,Ad AP,Ad AP]
def yE(h1:3<=q)(h2:q<=6):q=3\/q=4\/q=5\/q=6:=Ac
def Gz.both(g:Gz b n o a):BA b/\BM b n:=⟨g.ok.ba,g.rm⟩
def aR(g:Gz b (n+1005) o a)(ht:t.Sm):BA (b.HL t).1/\BM (b.HL t).1 n:=by
 have g0:Gz b n o a:=g.dn Ac;have d:Gz b (n+4) o a:=g.dn Ac;have T:∀{c:Prop} [Decidable c] {x y:BS×Bool},(c->BA x.1/\BM x.1 n)->(BA y.1/\BM y.1 n)->BA (if c then x else y).1/\BM (if c then x else y).1 n:=λh1 h2=>by
  split;.rename_i h;exact h1 h
  .exact h2
 unfold BS.HL;refine T (λ_=>g0.both) (T (λ_=>g0.both) (T (λ_=>g0.both) (T (λ_=>g0.both) (T (λ_=>((g.dn (n':=n+5) Ac).Q6).both) (T (λ_=>((g.dn (n':=n+5) Ac).Fc ht.data).both) (T (λ_=>((g.dn (n':=n+1000) Ac).HT ht).both)
  (T (λ_=>?_) (T (λ_=>?_) (T (λhs=>Ç (g.dn (n':=n+7) Ac) ht hs) (T (λ_=>((g.dn (n':=n+1004) Ac).DE ht).both) ?_))))))))))
 .exact((d.FA ht).eq (c:={b.FA t with fs:=false,mode:=7}) rfl rfl rfl rfl rfl).both
 .exact((d.FA ht).eq (c:={b.FA t with mode:=20}) rfl rfl rfl rfl rfl).both
 .exact((d.FA (t:=Ra aVn) (Q4 AP)).eq (c:={b.FA (Ra aVn) with mode:=7}) rfl rfl rfl rfl rfl).both
def qc(g:Gz b (n+2000) o a)(ht:t.Sm)(hq:3<=q/\q<=6):BA (Ll b q t).1/\BM (Ll b q t).1 n:=by
 rcases yE hq.1 hq.2 with rfl|rfl|rfl|rfl
 .rw[m6];exact(Gz.FT (n:=n) (g.dn Ac) ht).both
 .rw[m7];exact(Gz.DE (n:=n) (g.dn Ac) ht).both
 .rw[m8];exact(Gz.FU (n:=n) (g.dn Ac) ht).both
 .rw[m9];exact aR (g.dn Ac) ht
def aKq(w:PB h bi b F)(g:Gz b (n+2000) o a)(ht:t.Sm)(hv:Bi t.Av av)(hl:t.Av.length<=1000000)(hq:3<=q/\q<=6):Rb h F 17 [Pt bi 0,.agg (Nu q t av)] (.bool (Ll b q t).2) bi (Ll b q t).1:=by
 obtain⟨dG,DH,ro⟩:=aKe hv hl;have e:=ro h;have f:=λhs=>pz (n:=n) w (g.dn Ac) ht DH hs;simp only[Cl] at e;rcases yE hq.1 hq.2 with rfl|rfl|rfl|rfl
 .rw[m6];obtain⟨h2,F2,r,d,c⟩:=aO0 (n:=n) w (g.dn Ac) ht DH f;refine⟨h2,F2,?_,d,c⟩;simp only[Cl] at r;rw[Ae,gJ];simp[abS,Nat.reduceLeDiff,↓reduceIte,Cl,e.Ab,r.Ab]
 .rw[m7];obtain⟨h2,F2,r,d,c⟩:=Ä (n:=n) w (g.dn Ac) ht DH f;refine⟨h2,F2,?_,d,c⟩;simp only[Cl] at r;rw[Ae,gJ];simp[abS,Nat.reduceLeDiff,↓reduceIte,Cl,e.Ab,r.Ab]
 .rw[m8];obtain⟨h2,F2,r,d,c⟩:=aO1 (n:=n) w (g.dn Ac) ht DH f;refine⟨h2,F2,?_,d,c⟩;simp only[Cl] at r;rw[Ae,gJ];simp[abS,Nat.reduceLeDiff,↓reduceIte,Cl,e.Ab,r.Ab]
 .rw[m9];obtain⟨h2,F2,r,d,c⟩:=aO3 (n:=n) w (g.dn Ac) ht DH f;refine⟨h2,F2,?_,d,c⟩;simp only[Cl] at r;rw[Ae,gJ];simp[abS,Nat.reduceLeDiff,↓reduceIte,Cl,e.Ab,r.Ab]
def aKr(w:RB h bi b F)(g:Gz b (n+2000) o a)(hm:Nm b.a)(ht:t.Sm)(hv:Bi t.Av av)(hl:t.Av.length<=1000000)(hq:3<=q/\q<=6):MW h F 18 [Pt bi 0,.agg (Nu q t av)] (.bool (Ll b q t).2) bi (Ll b q t).1:=by
 obtain⟨dG,DH,ro⟩:=aKe hv hl;have e:=ro h;have f:=λhs=>aKp (n:=n) w (g.dn Ac) hm ht DH hs;simp only[Cl] at e;rcases yE hq.1 hq.2 with rfl|rfl|rfl|rfl
 .rw[m6];obtain⟨h2,F2,r,d,c⟩:=aPe (n:=n) w (g.dn Ac) hm ht DH f;refine⟨h2,F2,?_,d,c⟩;simp only[Cl] at r;rw[Ae,gK];simp[abS,Nat.reduceLeDiff,↓reduceIte,Cl,e.Ab,r.Ab]
 .rw[m7];obtain⟨h2,F2,r,d,c⟩:=aFm (n:=n) w (g.dn Ac) hm ht DH f;refine⟨h2,F2,?_,d,c⟩;simp only[Cl] at r;rw[Ae,gK];simp[abS,Nat.reduceLeDiff,↓reduceIte,Cl,e.Ab,r.Ab]
 .rw[m8];obtain⟨h2,F2,r,d,c⟩:=aPf (n:=n) w (g.dn Ac) hm ht DH f;refine⟨h2,F2,?_,d,c⟩;simp only[Cl] at r;rw[Ae,gK];simp[abS,Nat.reduceLeDiff,↓reduceIte,Cl,e.Ab,r.Ab]
 .rw[m9];obtain⟨h2,F2,r,d,c⟩:=aPg (n:=n) w (g.dn Ac) hm ht DH f;refine⟨h2,F2,?_,d,c⟩;simp only[Cl] at r;rw[Ae,gK];simp[abS,Nat.reduceLeDiff,↓reduceIte,Cl,e.Ab,r.Ab]
end
def Û(s:EZ){av:Aa}(hv:Bi s.Av av){l:List QO}{v:Aa}(ho:dH l v)(hr:∀x∈l,-2147483648<=x.q.r/\x.q.r<=2147483647){p:FF×Aa}(hp:aFi p)(q:Int):Ev cx 3 [.agg (MT s av),v,.agg (Cl p.1 p.2),I q] [] λr _=>r= .bool true:=by
 have c:=aKi s hv ho [];rw[MT] at c;have d:=aPb (sa:=saB) (λh hv=>h9B h hv) hp.v [];simp only[Cl] at d;have ZJ:av.cells=[av]:=AU.cells hv;have k:p.2.cells=[p.2]:=AU.cells hp.v;unfold Ev;rw[aHj,MT];by_cases f:Oy l 40/\VO s;rotate_left;.rw[Ah f] at c;simp only[abS,Cl,c.Ab,ZF.B6 rfl rfl];exact⟨_,rfl,rfl⟩
 rw[Al f] at c;cases i:p.1.RF saB with
 |false=>rw[i] at d;simp only[abS,Cl,c.Ab,d.Ab,ZF.B6 rfl rfl];exact⟨_,rfl,rfl⟩
 |true=>
 rw[i] at d;by_cases u:q<3;.simp only[abS,Cl,c.Ab,d.Ab,AL u,ZF.B6 rfl rfl];exact⟨_,rfl,rfl⟩
 by_cases z:6<q;.simp only[abS,Cl,c.Ab,d.Ab,u,AL z,ZF.B6 rfl rfl];exact⟨_,rfl,rfl⟩
 have e:3<=q/\q<=6:=⟨Ac,Ac⟩;have hq:∀x∈l,ou x.q:=λx hx=>(f.1.2 x hx).ok (hr x hx);have xT:Q9 (LW s.b l) (49+1):=UL (j:=50) (s.xT.le (by have:=f.1.1;omega)) hq;have ht:=Õ i hp.r;have m:p.1.Av.length<=1000000:=by have:=(GN (p:=FB p.1.Av) (by unfold FF.RF at i;simp only[Bv] at i;exact i.2.2.2.2)).1;omega
 have g:Gz (LW s.b l) (5000000*49+4998000+2000) (LW s.b l).AQ.length (LW s.b l).A6.length:=xT.HN.gzF;have g2:=qc g ht e;obtain⟨h1,r2⟩:=aKj (h:=[]) s hv f.2.2.RF (by have:=f.2.1;omega) ho (by have:=f.1.1;omega) hq k g2.2 g2.1.ok
  (λh bi F w=>aKq (n:=5000000*49+4998000) w g ht hp.v m e) (λh bi F w=>aKr (n:=5000000*49+4998000) w g xT.nm ht hp.v m e)
 rw[MT] at r2;simp only[Nu,Cl] at r2;have y:AD (.Ch [I 0,I 0,S [],ff,S [],ff,S [],ff,ff,.slnil,ff,S [],.int .i32 0] [(0,1),(1,12)]) [I q,.agg (Cl p.1 p.2)]=some (.agg (I q::Cl p.1 p.2)):=rfl;simp only[Cl] at y;simp only[abS,Cl,ZJ,k,c.Ab,d.Ab,u,z,y,r2.Ab,ZF.B6 rfl rfl];exact⟨_,rfl,rfl⟩
def Ü{v:Aa}(h:oS (.int .i64) v):∃q,v= I q:=by obtain⟨n,e,_⟩:=LB (show Z8 (.int .i64) [v] from h);exact⟨n,by simpa using e⟩
def qd:∀l,WJ [mU,.sl tOp,Ó,.int .i64] l->Ev cx 3 l [] λr _=>r= .bool true:=by rintro _ ⟨a,_,rfl,ha,b,_,rfl,hb,d,_,rfl,hd,e,_,rfl,he,rfl⟩;obtain⟨s,av,rfl,hv⟩:=xX ha;obtain⟨l,ho,hr⟩:=É hb;obtain⟨p,rfl,hp⟩:=Ô hd;obtain⟨q,rfl⟩:=Ü he;exact Û s hv ho hr hp q
end Go.Am
