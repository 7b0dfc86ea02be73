/- Lemmas -/
import Derived.Test.YtdbnpiefklklhaaGreatDoorH34
set_option linter.all false
namespace Go.Am
open Go
set_option maxRecDepth 100000
section
variable{b:BS}{l:List A3}
def TW(nm:Ah)(l:List A3):DH:=⟨2,nm,false,[],false,[],false,false,l,false,[],0⟩
def PI{t:DH}(h:t.name∈PC)(f:t.name∉Hq)(e:t.name∉Pz)(d:t.name∉CT)(c:t.name∉kK)(a:t.name∉kL)(n6:t.name∉TO):b.opens t=(b.empty t,false):=by unfold BS.opens;rw[Ad f,Ad e,Ad d,Ad c,Ad a,Ad n6,Af h]
def XZ{t:DH}(hk:t.k=2):b.E5 t=b.opens t:=by
 have HW:t.ok:=by unfold DH.ok;omega
 unfold BS.E5;rw[Ad (by simpa using HW),Ad Ab,Ad Ab,Ad Ab,Af hk]
def aDD{t:DH}(hk:t.k=3):b.E5 t=b.L5 t:=by
 have HW:t.ok:=by unfold DH.ok;omega
 unfold BS.E5;rw[Ad (by simpa using HW),Ad Ab,Ad Ab,Ad Ab,Ad Ab,Af hk]
def Z4{t:DH}(h1:¬t.name=[104,114])(h2:t.name∉p8)(a:¬t.name=aUu):b.empty t={b.Bf.MC {t with name:=if t.name=aTD then aTG else t.name} with fs:=false}:=by unfold BS.empty;rw[Ad h1,Ad h2,Ad a]
def TX:b.E5 (TW aTD l)=b.E5 (TW aTG l)/\(b.E5 (TW aTG l)).2=false:=by have e:b.opens (TW aTD l)=(b.empty (TW aTD l),false):=PI (Cz:aTD∈PC) (Cz:aTD∉Hq) (Cz:aTD∉Pz) (Cz:aTD∉CT) (Cz:aTD∉kK) (Cz:aTD∉kL) (Cz:aTD∉TO);have d:b.opens (TW aTG l)=(b.empty (TW aTG l),false):=PI (Cz:aTG∈PC) (Cz:aTG∉Hq) (Cz:aTG∉Pz) (Cz:aTG∉CT) (Cz:aTG∉kK) (Cz:aTG∉kL) (Cz:aTG∉TO);rw[XZ rfl,XZ rfl,e,d];refine⟨?_,rfl⟩;rw[Z4 (t:=TW aTD l) (AM:¬aTD=[104,114]) (Cz:aTD∉p8) (AM:¬aTD=aUu),Z4 (t:=TW aTG l) (AM:¬aTG=[104,114]) (Cz:aTG∉p8) (AM:¬aTG=aUu)];have c:(if(TW aTD l).name=aTD then aTG else(TW aTD l).name)=aTG:=Af rfl;have a:(if(TW aTG l).name=aTD then aTG else(TW aTG l).name)=aTG:=(Ad (show¬(TW aTG l).name=aTD from(AM:¬(aTG:Ah)=aTD))).trans rfl;rw[c,a];rfl
def fh{t:DH}(h:t.name=[98,114]):b.L5 t=(b.empty (MV [98,114]),false):=by unfold BS.L5;rw[h];rw[Ad (AM:¬[98,114]=Bc),Ad (Cz:[98,114]∉N6),Ad (Cz:[98,114]∉XQ),Ad (Cz:[98,114]∉uy),Ad (Cz:[98,114]∉CT),Ad (Cz:[98,114]∉TO),Ad (Cz:[98,114]∉kM),Ad (AM:¬([98,114]:Ah)=aUa),Af rfl]
def X0:b.E5 (ÿ [98,114])=b.E5 (TW [98,114] [])/\(b.E5 (TW [98,114] [])).2=false:=by have a:b.opens (TW [98,114] [])=(b.empty (TW [98,114] []),false):=PI (Cz:[98,114]∈PC) (Cz:[98,114]∉Hq) (Cz:[98,114]∉Pz) (Cz:[98,114]∉CT) (Cz:[98,114]∉kK) (Cz:[98,114]∉kL) (Cz:[98,114]∉TO);rw[aDD (t:=ÿ [98,114]) rfl,XZ (t:=TW [98,114] []) rfl,a];refine⟨?_,rfl⟩;rw[fh (t:=ÿ [98,114]) rfl];rfl
def X1{nm:Ah}(h:nm.length<=1000)(hl:Eb l):(TW nm l).Sm:=⟨h,hl,(AM:([]:Ah).length<=1000),show(-2147483648:Int)<=0/\(0:Int)<=2147483647 by decide⟩
end
def wz(s:Gc){av:Aa}(hv:Bb s.Au av){l:List QO}{v:Aa}(ho:XM l v)(hr:∀x∈l,-2147483648<=x.q.r/\x.q.r<=2147483647){f:List A3}{v2:Aa}(Qi:Bb f v2):Ev cx 4 [.agg (Nn s av),v,v2] [] λr _=>r= .bool true:=by
 have c:=aHM s hv ho [];rw[Nn] at c;have w:=f9 Qi [];unfold Ev;rw[aFy,t4,Nn];by_cases e:MB l 40/\SL s;rotate_left;.rw[Ak e] at c;simp only[abS,c.Ac,Og.Bn rfl rfl];exact⟨_,rfl,rfl⟩
 rw[Al e] at c;by_cases D:ER f;rotate_left;.rw[Ak D] at w;simp only[abS,c.Ac,w.Ac,Og.Bn rfl rfl];exact⟨_,rfl,rfl⟩
 rw[Al D] at w;have p:=D.MA;have hq:∀x∈l,xr x.q:=λx hx=>(e.1.2 x hx).ok (hr x hx);have HM:Fin (KQ s.b l) (49+1):=SJ (j:=50) (s.HM.le (by have:=e.1.1;omega)) hq;obtain⟨h1,h2,bi,bj,F1,F2,Q,P,w1,X,d⟩:=lH s hv e.2.2.MA ho (by have:=e.1.1;omega) hq [];generalize KQ s.b l=b at*;have xi:AO=140737488355328:=rfl;obtain⟨K,Z,B⟩:=Bv.Q6 (b:=40) Qi (by have:=p.1;omega);have kc:K.cells=[K]:=Bv.cells B;have J:=λh=>aDA aTD h;have I:=λh=>aDA aTG h;have H:=λh=>aMU [98,114] h;have G:=λh=>aDA [98,114] h;have g:=HM.gzB;have o:=wc w1 g (t:=TW aTD f) (av:=K) (X1 AM p) B;rw[TX.1,TX.2] at o;obtain⟨h3,F3,O,W,U⟩:=o;obtain⟨V,d4⟩:=PH X d U;have n:=wc V g (t:=TW aTG f) (av:=K) (X1 AM p) B;rw[TX.2] at n;obtain⟨h5,F5,N,F,T⟩:=n;obtain⟨E,d6⟩:=PH W (λi a b=>d4 i b a) T;have g1:=Gz.E5 g (t:=TW aTG f) (X1 AM p);have n1:=HM.sz.AK;have n2:=HM.sz.AZ;generalize(b.E5 (TW aTG f)).1=b1 at*;obtain⟨u,Y⟩:=aDC E F g1.ok (g1.rm.le (m':=1000) Ab) AM;have g2:Gz b1 (10000+8*(4*(b.AK.length+2*b.AZ.length+17+(b.AZ.length+9)+8)+10)+8*(b.AZ.length+9)+2000) (b.AK.length+2*b.AZ.length+17) (b.AZ.length+9):=g1.dn Ab;have m:=wc (E.JX (u:=u)) g2 (t:=ÿ [98,114]) (av:= .slnil) (aDB AM) lD;rw[X0.1,X0.2] at m;obtain⟨h7,F7,M,fE,S⟩:=m;obtain⟨A,C⟩:=PH (F.JX (u:=u)) (λi a b=>d6 i b a) S;have k:=wc A g2 (t:=TW [98,114] []) (av:= .slnil) (X1 AM TV) lD;rw[X0.2] at k;obtain⟨h8,F8,L,z,R⟩:=k;obtain⟨y,d13⟩:=PH fE (λi a b=>C i b a) R;have g3:=Gz.E5 g2 (t:=TW [98,114] []) (X1 AM TV);obtain⟨u2,kT⟩:=aDC y z g3.ok (g3.rm.le (m':=1000) Ab) AM;rw[Nn] at Q P;simp only[B1,TW,ÿ] at O N M L;simp only[B1,MV,ÿ] at J I H G;simp only[abS,c.Ac,w.Ac,Q.Ac,P.Ac,(J _).Ac,(I _).Ac,(H _).Ac,(G _).Ac,Z,kc,O.Ac,N.Ac,Y.Ac,M.Ac,L.Ac,kT.Ac,Og.Bn rfl rfl];exact⟨_,rfl,rfl⟩
def fj:∀l,R4 [Rm,.sl ò,.sl UC] l->Ev cx 4 l [] λr _=>r= .bool true:=by rintro _ ⟨a,_,rfl,ha,b,_,rfl,hb,c,_,rfl,hc,rfl⟩;obtain⟨s,av,rfl,hv⟩:=XP ha;obtain⟨l,ho,hr⟩:=kJ hb;have Ns:X6 (.sl UC) [c]:=hc;obtain⟨e,d,hl,_⟩:=XO SK Ns;exact wz s hv ho hr d
end Go.Am
