/- Lemmas -/
import Derived.Test.YtglbboamemndeaaGreatDoorS27
import Derived.Test.YtglbboamemndeaaGreatDoorS29
set_option linter.all false
namespace Go.Am
open Go
set_option maxRecDepth 100000
abbrev aFe:Ty:= .st [.int .i64,.str,.bool,.str,.bool,.str,.bool,.bool,.sl yH,.bool,.str,.int .i32]
structure Á(p:DJ×Aa):Prop where
 v:A6 p.1.As p.2
 r: -2147483648<=p.1.r/\p.1.r<=2147483647
 n:p.1.As.length<=maxLen
def Â(r:List Aa)(h:YM aFe r):∃p:DJ×Aa,r=B1 p.1 p.2/\Á p:=by obtain⟨x1,T,rfl,h1,h⟩:=Ct h;obtain⟨x2,S,rfl,h2,h⟩:=Ct h;obtain⟨x3,R,rfl,I,h⟩:=Ct h;obtain⟨Z,Q,rfl,H,h⟩:=Ct h;obtain⟨Y,P,rfl,G,h⟩:=Ct h;obtain⟨X,O,rfl,E,h⟩:=Ct h;obtain⟨W,N,rfl,D,h⟩:=Ct h;obtain⟨V,M,rfl,C,h⟩:=Ct h;obtain⟨U,L,rfl,d,h⟩:=Ct h;obtain⟨Ĉ,q,rfl,Y1,h⟩:=Ct h;obtain⟨u,m,rfl,bX,h⟩:=Ct h;obtain⟨s,k,rfl,g,h⟩:=Ct h;obtain rfl:=NF h;obtain⟨z,rfl,_⟩:=KH h1;obtain⟨y,rfl⟩:=LD h2;obtain⟨b3,rfl⟩:=JX I;obtain⟨x,rfl⟩:=LD H;obtain⟨b5,rfl⟩:=JX G;obtain⟨w,rfl⟩:=LD E;obtain⟨K,rfl⟩:=JX D;obtain⟨J,rfl⟩:=JX C;obtain⟨v,rfl,d⟩:=TP d;obtain⟨l,d,hl,_⟩:=Yd Ye d;obtain⟨i,rfl⟩:=JX Y1;obtain⟨e,rfl⟩:=LD bX;obtain⟨f,rfl,c⟩:=KH g;refine⟨(⟨z,y,b3,x,b5,w,K,J,l,i,e,f⟩,v),rfl,d,?_,hl⟩;have B:IntKind.i32.min= -2147483648:=rfl;have A:IntKind.i32.max=2147483647:=rfl;simp[Lit.wf,B,A] at c;exact c
def saB(l:List AZ):Bool:=decide (Fb l)
def h9B{v:Aa}{l:List AZ}(h:Ai)(hv:A6 l v):B2 cx 21 [v] h (.bool (saB l)) h:=f9 hv h
section
variable{t:DJ}{p:DJ×Aa}{l:List (DJ×Aa)}{v:Aa}
def vf(h:t.OL saB=true)(hr: -2147483648<=t.r/\t.r<=2147483647):t.Sm:=by unfold DJ.OL at h;simp only[A7,Co] at h;exact⟨Ac,(Mi (p:=Fb t.As) h.2.2.2.2).OL,Ac,hr⟩
def fg(h:t.OL saB=true):t.Jy.length<=AJ:=by unfold DJ.OL at h;simp only[A7,Co] at h;have:AJ=140737488355328:=rfl;omega
end
section
variable{h h':Ai}{v av:Aa}{b:BS}{j:Nat}
def aJJ(s:Hd)(hv:A6 s.As av){l:List QO}(ho:oG l v)(h:Ai):B2 cx 4 [.agg (SL s av),v] h (.bool (decide (NG l 40/\Uw s))) h:=by
 have c:B2 cx 13 [v,I 40] h (.bool (decide (NG l 40))) h:=f4 ho (m:=40) AM h;have e:=f5 s hv h;have vt:av.cells=[av]:=Bz.cells hv;rw[Ae,aC2,SL];by_cases d:NG l 40
 .rw[Ak d] at c;by_cases f:Uw s;.rw[Ak f] at e;simp only[abS,c.Ad,e.Ad,d,f,Yv,DM]
  .rw[Ah f] at e;simp only[abS,c.Ad,e.Ad,d,f,đ,C0]
 .rw[Ah d] at c;simp only[abS,c.Ad,d,Ē,C0]
def Fin.gz(f:Fin b (j+1)):Gz b (5000000*j+5000000) b.AA.length b.AY.length:=⟨f.ok,f.sz.rm.le Ac,Ab _,Ab _⟩
end
noncomputable def BS.fh(r:Int)(b:BS)(t:DJ):BS×Bool:=
 if r=1 then b.Ht Yr t else if r=2 then b.D7 t else if r=3 then b.D8 t else if r=4 then b.CJ t else if r=5 then b.D9 t
 else if r=6 then b.Gk t else if r=7 then b.Je t else if r=8 then b.Jc t else if r=9 then b.Dv t else(b,false)
section
variable{h h':Ai}{bi bj:Nat}{F F2:Nat->Prop}{b:BS}{v av:Aa}{j n o a:Nat}{t:DJ}{r:Int}
def aFg(w:PB h bi b F)(g:Gz b (n+8*(4*(o+a+8)+10)+8*a+2000) o a)(ht:t.Sm)(hp:t.Jy.length<=AJ)(hv:A6 t.As av)(hl:t.As.length<=1000000)(h0:r≠0):
  Fc h F 10 [Pt bi 0,.agg (I r::B1 t av)] (.bool (b.fh r t).2) bi (b.fh r t).1:=by
 obtain⟨aD,Hq,ro⟩:=aFa hv hl;have c:=ro h;have ge:∀{m},m<=8*(4*(o+a+8)+10)+8*a+2000->Gz b (n+m) o a:=λhm=>g.dn Ac;have f:t.st [aQg]->Fc h F 30 [Pt bi 0,.agg (B1 t aD)] ff bi (b.Hp t):=λhs=>NJ (n:=n) w (ge Ac) ht Hq hs;unfold BS.fh;by_cases B:r=1;.subst B;rw[Ag rfl];obtain⟨h2,F2,q,e,d⟩:=aE6 (n:=n) w (ge Ac) ht Hq (λh=>f75 t hp h);refine⟨h2,F2,?_,e,d⟩;simp only[B1] at c q;rw[Ae,L7];simp[abS,Nat.reduceLeDiff,↓reduceIte,B1,c.Ad,q.Ad]
 rw[Af B];by_cases A:r=2;.subst A;rw[Ag rfl];obtain⟨h2,F2,q,e,d⟩:=aEL (n:=n) w (ge Ac) ht Hq;refine⟨h2,F2,?_,e,d⟩;simp only[B1] at c q;rw[Ae,L7];simp[abS,Nat.reduceLeDiff,↓reduceIte,B1,c.Ad,q.Ad]
 rw[Af A];by_cases z:r=3;.subst z;rw[Ag rfl];obtain⟨h2,F2,q,e,d⟩:=aEM (n:=n) w (ge Ac) ht Hq f;refine⟨h2,F2,?_,e,d⟩;simp only[B1] at c q;rw[Ae,L7];simp[abS,Nat.reduceLeDiff,↓reduceIte,B1,c.Ad,q.Ad]
 rw[Af z];by_cases y:r=4;.subst y;rw[Ag rfl];obtain⟨h2,F2,q,e,d⟩:=jU (n:=n) w (ge Ac) ht Hq f;refine⟨h2,F2,?_,e,d⟩;simp only[B1] at c q;rw[Ae,L7];simp[abS,Nat.reduceLeDiff,↓reduceIte,B1,c.Ad,q.Ad]
 rw[Af y];by_cases x:r=5;.subst x;rw[Ag rfl];obtain⟨h2,F2,q,e,d⟩:=aEO (n:=n) w (ge Ac) ht Hq f;refine⟨h2,F2,?_,e,d⟩;simp only[B1] at c q;rw[Ae,L7];simp[abS,Nat.reduceLeDiff,↓reduceIte,B1,c.Ad,q.Ad]
 rw[Af x];by_cases u:r=6;.subst u;rw[Ag rfl];obtain⟨h2,F2,q,e,d⟩:=aEQ (n:=n) w (ge Ac) ht Hq f;refine⟨h2,F2,?_,e,d⟩;simp only[B1] at c q;rw[Ae,L7];simp[abS,Nat.reduceLeDiff,↓reduceIte,B1,c.Ad,q.Ad]
 rw[Af u];by_cases s:r=7;.subst s;rw[Ag rfl];obtain⟨h2,F2,q,e,d⟩:=aE3 (n:=n) w g ht Hq;refine⟨h2,F2,?_,e,d⟩;simp only[B1] at c q;rw[Ae,L7];simp[abS,Nat.reduceLeDiff,↓reduceIte,B1,c.Ad,q.Ad]
 rw[Af s];by_cases k:r=8;.subst k;rw[Ag rfl];obtain⟨h2,F2,q,e,d⟩:=aER (n:=n) w (ge Ac) ht Hq;refine⟨h2,F2,?_,e,d⟩;simp only[B1] at c q;rw[Ae,L7];simp[abS,Nat.reduceLeDiff,↓reduceIte,B1,c.Ad,q.Ad]
 rw[Af k];by_cases i:r=9;.subst i;rw[Ag rfl];obtain⟨h2,F2,q,e,d⟩:=aAU (n:=n) w (g.dn (n':=n+4*a+1005) Ac) ht Hq;refine⟨h2,F2,?_,e,d⟩;simp only[B1] at c q;rw[Ae,L7];simp[abS,Nat.reduceLeDiff,↓reduceIte,B1,c.Ad,q.Ad]
 rw[Af i];refine⟨_,_,?_,w,.refl⟩;simp only[B1] at c;rw[Ae,L7];simp[abS,Nat.reduceLeDiff,↓reduceIte,B1,c.Ad,h0,B,A,z,y,x,u,s,k,i]
def aFh(w:PB h bi b F)(g:Gz b (n+8*(4*(o+a+8)+10)+8*a+2000) o a)(ht:t.Sm)(hp:t.Jy.length<=AJ)(hv:A6 t.As av)(hl:t.As.length<=1000000):
  Fc h F 10 [Pt bi 0,.agg (I 0::B1 t av)] (.bool (b.apply Yr t).2) bi (b.apply Yr t).1:=by
 obtain⟨aD,Hq,ro⟩:=aFa hv hl;have c:=ro h;obtain⟨h2,F2,q,e,d⟩:=aE8 (n:=n) w g ht Hq (λh=>f75 t hp h);refine⟨h2,F2,?_,e,d⟩;simp only[B1] at c q;rw[Ae,L7];simp[abS,Nat.reduceLeDiff,↓reduceIte,B1,c.Ad,q.Ad]
end
end Go.Am
