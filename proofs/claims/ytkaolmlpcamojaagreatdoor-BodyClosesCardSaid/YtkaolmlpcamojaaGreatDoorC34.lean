/- Lemmas -/
import Derived.Test.YtkaolmlpcamojaaGreatDoorC32
import Derived.Test.YtkaolmlpcamojaaGreatDoorC33
set_option linter.all false
set_option maxRecDepth 100000
section
namespace Go.Am
open Go
section
variable{h h':Ah}{bi lo:Nat}{b c:BS}{F F':Nat->Prop}{m n o a j:Nat}{t:GD}{av:Aa}
def J_(nm:Ai):GD:=⟨3,nm,false,[],false,[],false,false,[],false,[],0⟩
def aOD(nm:Ai)(h:Ah):BL cx 9 [.str nm] h (.agg (C7 (J_ nm) .slnil)) h:=by rw[Ae,u_];simp only[abS,Nat.reduceLeDiff,↓reduceIte,AR,J_]
def aED{nm:Ai}(h:nm.length<=1000):(J_ nm).Sm:=⟨h,mo,(AM:([]:Ai).length<=1000),show(-2147483648:Int)<=0/\(0:Int)<=2147483647 by decide⟩
end
section
variable{h:Ah}{bi:Nat}{b:BS}{F:Nat->Prop}
end
section
variable{h h':Ah}{bi:Nat}{b b':BS}{F:Nat->Prop}{n o a:Nat}{t:GD}{av:Aa}
def aJE(w:PB h bi b F)(g:Gz b (n+8*(4*(o+a+8)+10)+8*a+2000) o a)(ht:t.Sm)(hv:Bt t.Ay av)(hl:t.Ay.length<=1000000)(hk:t.k=3):N7 h F 17 [Pt bi 0,.agg (Nf 7 t av)] (.bool (b.Iq t).2) bi (b.Iq t).1:=by obtain⟨Vk,DJ,ro⟩:=aJm hv hl;have c:=ro h;obtain⟨h2,F2,r,e,d⟩:=qH (n:=n) w g ht DJ hk;refine⟨h2,F2,?_,e,d⟩;simp only[C7] at c r;rw[Ae,aCZ];simp[abS,Nat.reduceLeDiff,↓reduceIte,C7,c.Ac,r.Ac]
def aJF(w:RB h bi b F)(g:Gz b (n+8*(4*(o+a+8)+10)+8*a+2000) o a)(hm:Nm b.a)(ht:t.Sm)(hv:Bt t.Ay av)(hl:t.Ay.length<=1000000)(hk:t.k=3):RZ h F 18 [Pt bi 0,.agg (Nf 7 t av)] (.bool (b.Iq t).2) bi (b.Iq t).1:=by obtain⟨Vk,DJ,ro⟩:=aJm hv hl;have c:=ro h;obtain⟨h2,F2,r,e,d⟩:=aJD (n:=n) w g hm ht DJ hk;refine⟨h2,F2,?_,e,d⟩;simp only[C7] at c r;rw[Ae,aC0];simp[abS,Nat.reduceLeDiff,↓reduceIte,C7,c.Ac,r.Ac]
end
def wL(s:EW){av:Aa}(hv:Bt s.Ay av){l:List QO}{v:Aa}(ho:bX l v)(hr:∀x∈l,-2147483648<=x.q.r/\x.q.r<=2147483647)(nm:Ai):Ev cx 4 [.agg (MA s av),v,.str nm] [] λr _=>r= .bool true:=by
 have d:=aJq s hv ho [];rw[MA] at d;have Zg:av.cells=[av]:=AU.cells hv;unfold Ev;rw[aGz,MA];by_cases c:N9 l 40/\Vq s;rotate_left;.rw[Ap c] at d;simp only[abS,d.Ac,wI.B7 rfl rfl];exact⟨_,rfl,rfl⟩
 rw[As c] at d;by_cases i:(60:Int)<(nm.length:Int);.simp only[abS,d.Ac,i,wI.B7 rfl rfl];exact⟨_,rfl,rfl⟩
 have hq:∀x∈l,ly x.q:=λx hx=>(c.1.2 x hx).ok (hr x hx);have lB:QY (J7 s.b l) (49+1):=Uu (j:=50) (s.lB.le (by have:=c.1.1;omega)) hq;have ht:(J_ nm).Sm:=aED Ab;have g:Gz (J7 s.b l) (5000000*49+800000+8*(4*((J7 s.b l).AN.length+(J7 s.b l).A6.length+8)+10)+8*(J7 s.b l).A6.length+2000) (J7 s.b l).AN.length (J7 s.b l).A6.length:=by have h1:=lB.sz.AN;have h2:=lB.sz.A6;exact lB.HF.gzF.dn Ab
 have g2:=Gz.Iq (n:=5000000*49+800000) g ht;obtain⟨h1,r2⟩:=aJr (h:=[]) s hv c.2.2.aBv (by have:=c.2.1;omega) ho (by have:=c.1.1;omega) hq (ta:= .slnil) rfl g2.rm g2.ok.ok
  (λh bi F w=>aJE (n:=5000000*49+800000) w g ht (.inr ⟨rfl,rfl⟩) (by simp[J_]) rfl) (λh bi F w=>aJF (n:=5000000*49+800000) w g lB.nm ht (.inr ⟨rfl,rfl⟩) (by simp[J_]) rfl)
 have e:=aOD nm [];rw[MA] at r2;simp only[Nf,C7,J_] at r2 e;have f:AD (.Co [I 0,I 0,S [],ff,S [],ff,S [],ff,ff,.slnil,ff,S [],.int .i32 0] [(0,1),(1,12)]) [I 7,.agg (C7 (J_ nm) .slnil)]=some (.agg (I 7::C7 (J_ nm) .slnil)):=rfl;simp only[C7,J_] at f;simp only[abS,Nat.reduceLeDiff,↓reduceIte,Zg,d.Ac,i,e.Ac,f,r2.Ac,wI.B7 rfl rfl];exact⟨_,rfl,rfl⟩
def qL:∀l,Wi [lE,.sl tOp,.str] l->Ev cx 4 l [] λr _=>r= .bool true:=by
 rintro _ ⟨a,_,rfl,ha,b,_,rfl,hb,c,_,rfl,hc,rfl⟩;obtain⟨s,av,rfl,hv⟩:=wB ha;obtain⟨l,ho,hr⟩:=zg hb;obtain⟨nm,rfl⟩:∃s:Ai,c= .str s:=by obtain⟨s,e⟩:=QQ (r:=[c]) hc;exact⟨s,by simpa using e⟩
 exact wL s hv ho hr nm
end Go.Am
end
