/- Lemmas -/
import Derived.Test.YtkaolmlpcamojaaGreatDoorH32
set_option linter.all false
set_option maxRecDepth 100000
section
namespace Go.Am
open Go
section
variable{t:FF}{av:Aa}{h:Ai}
def aKk(r:Int):JX cx 276 [.int .u8 r] (.bool (decide (Zz r))):=by
 rw[Ml,ś];by_cases h1:r=9;.subst h1;simp[Zz]
 by_cases h2:r=10;.subst h2;simp[Zz]
 by_cases e:r=12;.subst e;simp[Zz]
 by_cases d:r=13;.subst d;simp[Zz]
 by_cases c:r=32;.subst c;simp[Zz]
 have:¬Zz r:=by unfold Zz;omega
 simp[h1,h2,e,d,c,this]
def aKl(t:FF)(av:Aa)(h:Ai):BG cx 127 [.agg (Cl t av)] h (.bool (decide t.ED)) h:=by
 rw[Ae,Ĵ];by_cases d:t.k=5
 .by_cases h0:0<=t.r
  .by_cases h1:t.r<128
   .have e:IntKind.u8.wrap t.r=t.r:=by rw[IntKind.wrap_u8];omega
    have c:decide t.ED=decide (Zz t.r):=Dd.2 (by unfold FF.ED;exact⟨λh=>h.2,λh=>⟨d,h⟩⟩);simp only[abS,Cl,AL d,h0,h1,QN,e,(aKk t.r).B6 rfl rfl,c]
   .have c:decide t.ED=false:=Ah λh=>by unfold FF.ED Zz at h;have h2:=h.2;omega
    simp only[abS,Cl,AL d,h0,h1,c]
  .have c:decide t.ED=false:=Ah λh=>by unfold FF.ED Zz at h;have h2:=h.2;omega
   simp only[abS,Cl,AL d,h0,c]
 .have c:decide t.ED=false:=Ah λh=>d h.1;simp only[abS,Cl,d,c]
def aKm(t:FF)(av:Aa)(h:Ai):BG cx 126 [.agg (Cl t av)] h (.bool (decide ¬t.ok)) h:=by
 rw[Ae,ĳ];by_cases h1:t.k<1;.have e:decide (¬t.ok)=true:=Al (by unfold FF.ok;omega);simp only[abS,Cl,h1,e,Dw,DG]
 .by_cases h2:6<t.k;.have e:decide (¬t.ok)=true:=Al (by unfold FF.ok;omega);simp only[abS,Cl,h1,h2,e,Dw,DG]
  .have e:decide (¬t.ok)=false:=Ah λh=>h (by unfold FF.ok;omega);simp only[abS,Cl,h1,h2,e,Dw,DG]
structure Wd(l:Aj)(ws:List Aj):Prop where
 len:l.length<9223372036854775806
 w:∀s,Gd l s=decide (s∈ws)
def Rc{l:Aj}{ws:List Aj}(h0:(decide (l.length<9223372036854775806))=true)(h1:Dr [] l=ws)(h2:ws.all (λw=> !w.isEmpty&& !w.contains 32)=true):Wd l ws:=⟨GN h0,λs=>D9 h1 h2⟩
def aA3{l:Aj}{ws:List Aj}(w:Wd l ws)(ht:t.name.length<=1000)(av:Aa)(h:Ai):BG cx 132 [.agg (Cl t av),.str l] h (.bool (decide (t.st ws))) h:=by
 rw[Ae,bm];by_cases c:t.k=2
 .have e:decide (t.st ws)=decide (t.name∈ws):=by unfold FF.st;simp[c]
  simp only[abS,Cl,AL c,HH w.len (Ac:t.name.length<9223372036854775807),w.w,e]
 .have e:decide (t.st ws)=false:=by unfold FF.st;simp[c]
  simp only[abS,Cl,c,e]
def aA4{l:Aj}{ws:List Aj}(w:Wd l ws)(ht:t.name.length<=1000)(av:Aa)(h:Ai):BG cx 133 [.agg (Cl t av),.str l] h (.bool (decide (t.en ws))) h:=by
 rw[Ae,bn];by_cases c:t.k=3
 .have e:decide (t.en ws)=decide (t.name∈ws):=by unfold FF.en;simp[c]
  simp only[abS,Cl,AL c,HH w.len (Ac:t.name.length<9223372036854775807),w.w,e]
 .have e:decide (t.en ws)=false:=by unfold FF.en;simp[c]
  simp only[abS,Cl,c,e]
def aKn(nm:Aj)(h:Ai):BG cx 134 [.str nm] h (.agg (Cl (Ra nm) .slnil)) h:=by rw[Ae,Ķ];simp only[abS,Nat.reduceLeDiff,↓reduceIte,AT,Cl,Ra];try rfl
end
section
variable{h h':Ai}{bi:Nat}{b b':BS}{F:Nat->Prop}{n o a:Nat}{t:FF}{av:Aa}
def JP:Wd aVh [aVh]:=Rc AP CA CA
def aCu:Wd aVC eHB:=Rc AP CA CA
end
section
variable{h h':Ai}{bi:Nat}{b b':BS}{F:Nat->Prop}{n o a:Nat}{t:FF}{av:Aa}{nm:Aj}{ws:List Aj}
def aFj(w:RB h bi b F)(g:Gz b n o a):MW h F 98 [.ptr (some (bi,0))] (.tuple []) bi b.Cy:=by obtain⟨d,e,c,tt,G,w,hc,rfl⟩:=w;obtain⟨h',o',c',t',r,w',Kw,x⟩:=aJP w hc g.rm;exact⟨h',_,r,⟨d,o',c',t',G,w',Kw,rfl⟩,x⟩
def aKo(w:RB h bi b F)(v:Bool):WrR h F bi 14 (.bool v) {b with fs:=v}:=by obtain⟨e,d,c,tt,G,w,hc,rfl⟩:=w;exact⟨w.st (k:=14) rfl rfl,⟨e,d,c,tt,G,w.put rfl rfl w.o w.t,hc,rfl⟩,Bf⟩
def RB.lo(w:RB h bi b F):∃v,A7 h none (.ptr (some (bi,2)))=some v/\BZ b.AQ v/\∀{u:Aa} {l:List Item},BZ l u->∀t:Ai,WrR (h++t) F bi 2 u {b with AQ:=l}/\DC h F (h++t) F:=by obtain⟨e,d,c,tt,G,w,hc,rfl⟩:=w;refine⟨d,w.ld 2,w.o,λ{u l} hu t=>?_⟩;have w1:=w.HQ (u:=t);exact⟨⟨w1.st (k:=2) (v0:=d) rfl (AU.cells hu),⟨e,u,c,tt,G,w1.HZ hu,hc,rfl⟩,Bf⟩,w.C2⟩
def aPd(w:RB h bi b F)(g:Gz b n o a):BG cx 286 [.ptr (some (bi,0))] h (.bool (decide b.gC)) h:=by obtain⟨v,d,hv,_⟩:=w.lo;have ho:=g.rm.AQ;have c:=aAb (h:=h) hv Ac AM;rw[show decide b.gC=decide (0<=AV (Bw [AM]) b.AQ) from rfl];rw[AM] at c⊢;rw[Ae,š];simp only[BE,d,c.Ab]
end
def Ö:Wd [98,114] [[98,114]]:=Rc AP CA CA
section
variable{h h':Ai}{bi:Nat}{b b':BS}{F:Nat->Prop}{n o a:Nat}{t:FF}{av:Aa}{nm:Aj}{ws:List Aj}
def dW{L:List (List Aj)}{s:Aj}{X:List Aj}(hs:s∈X)(h:(X.all λw=>L.all λl=>decide (w∉l))=true):∀l∈L,s∉l:=λl hl=>GN (Db.1 (Db.1 h s hs) l hl)
def Nv:Wd aVk [aVk]:=Rc AP CA CA
def I0:Wd aVg [aVg]:=Rc AP CA CA
end
def mY:Wd aVu Ow:=Rc AP CA CA
def ZG:Wd aVs [aVs]:=Rc AP CA CA
def Ø:Wd aVL pv:=Rc AP CA CA
def US:Wd aVx [aVx]:=Rc AP CA CA
def Kk:Wd aVl [aVl]:=Rc AP CA CA
def Qx:Wd aVf Hr:=Rc CA CA CA
def mZ:Wd aWb [aVn,aVh,[98,114]]:=Rc AP CA CA
def m0:Wd aVn [aVn]:=Rc AP CA CA
def Qy:Wd aVr [aVr]:=Rc AP CA CA
def yC:Wd aVo px:=Rc AP CA CA
def aCv:Wd aVP sHN:=Rc AP CA CA
section
variable{t:FF}{av:Aa}{h:Ai}{l:Aj}{ws:List Aj}
def KL(hk:t.k=2)(w:Wd l ws)(hn:t.name∈ws)(ht:t.Sm)(av:Aa)(h:Ai):BG cx 132 [.agg (Cl t av),.str l] h tt h:=by have q:=aA3 (t:=t) w ht.name av h;rwa [Al (show t.st ws from⟨hk,hn⟩)] at q
def Jo(w:Wd l ws)(hn:t.name∉ws)(ht:t.Sm)(av:Aa)(h:Ai):BG cx 132 [.agg (Cl t av),.str l] h ff h:=by have q:=aA3 (t:=t) w ht.name av h;rwa [Ah (show¬t.st ws from λh=>hn h.2)] at q
def VP(hk:t.k=3)(w:Wd l ws)(hn:t.name∈ws)(ht:t.Sm)(av:Aa)(h:Ai):BG cx 133 [.agg (Cl t av),.str l] h tt h:=by have q:=aA4 (t:=t) w ht.name av h;rwa [Al (show t.en ws from⟨hk,hn⟩)] at q
def VQ(w:Wd l ws)(hn:t.name∉ws)(ht:t.Sm)(av:Aa)(h:Ai):BG cx 133 [.agg (Cl t av),.str l] h ff h:=by have q:=aA4 (t:=t) w ht.name av h;rwa [Ah (show¬t.en ws from λh=>hn h.2)] at q
def dX(hk:¬t.k=2)(l:Aj)(av:Aa)(h:Ai):BG cx 132 [.agg (Cl t av),.str l] h ff h:=by rw[Ae,bm];simp only[abS,Cl,hk]
def dY(hk:¬t.k=3)(l:Aj)(av:Aa)(h:Ai):BG cx 133 [.agg (Cl t av),.str l] h ff h:=by rw[Ae,bn];simp only[abS,Cl,hk]
def RG(hk:¬t.ED)(av:Aa)(h:Ai):BG cx 127 [.agg (Cl t av)] h ff h:=by have q:=aKl t av h;rwa [Ah hk] at q
def jd(hk:t.ED)(av:Aa)(h:Ai):BG cx 127 [.agg (Cl t av)] h tt h:=by have q:=aKl t av h;rwa [Al hk] at q
def rZ(hk:t.ok)(av:Aa)(h:Ai):BG cx 126 [.agg (Cl t av)] h ff h:=by have q:=aKm t av h;rwa [Ah (FE.2 hk)] at q
def je(hk:¬t.ok)(av:Aa)(h:Ai):BG cx 126 [.agg (Cl t av)] h tt h:=by have q:=aKm t av h;rwa [Al hk] at q
def Nw(h:¬t.k=5):¬t.ED:=λhw=>h hw.1
end
section
variable{h h':Ai}{bi:Nat}{b b':BS}{F:Nat->Prop}{n o a:Nat}{t:FF}{av:Aa}{nm:Aj}{ws:List Aj}
def Ù(w:RB h bi b F)(ba:BA b)(rm:BM b (n+4))(hm:Nm b.a)(ht:t.Sm)(hv:Bi t.Av av):MW h F 86 [.ptr (some (bi,0)),.agg (Cl t av)] (.int .i64 (b.a.len+1)) bi (b.FA t):=by obtain⟨d,e,c,tt,G,w,hc,rfl⟩:=w;obtain⟨h',o',G',r,w',x⟩:=pd (m:=n) w ba rm hm KH hv ht.Av ht.name;exact⟨h',_,r,⟨d,o',c,tt,G',w',by unfold BS.FA;rw[D3];exact hc,rfl⟩,x⟩
def yD(w:RB h bi b F)(ba:BA b)(rm:BM b (n+4))(hm:Nm b.a)(ht:t.Sm)(hv:Bi t.Av av)(s:Int):MW h F 91 [.ptr (some (bi,0)),.agg (Cl t av),.int .i64 s] (.tuple []) bi (b.Fe t.name t.Av s):=by obtain⟨d,f,c,tt,G,w,hc,rfl⟩:=w;obtain⟨h',o',G',r,w',x⟩:=aJA (m:=n) w ba rm hm KH hv ht.Av ht.name s;exact⟨h',_,r,⟨d,o',c,tt,G',w',by have e:(b.Fe t.name t.Av s).A6=b.A6:=(by unfold BS.Fe;simp only;rw[D3]);rw[e];exact hc,rfl⟩,x⟩
def aFk(w:RB h bi b F)(rm:BM b n):MW h F 136 [.ptr (some (bi,0))] (.tuple []) bi b.Jt:=by
 obtain⟨j,d,c,tt,G,w,hc,rfl⟩:=w;have ho:=rm.AQ;have ld:A7 h none (.ptr (some (bi,2)))=some d:=w.ld 2;obtain⟨u,g,i,hu⟩:=aAe (h:=h) w.o Ac;have e:b.Jt={b with AQ:=J0 b.AQ ((b.AQ.length:Int)-1)}:=by
  unfold BS.Jt J0;split
  .have h1:max 1 ((b.AQ.length:Int)-1).toNat=1:=by omega
   rw[h1,AF Ac]
  .have h1:max 1 ((b.AQ.length:Int)-1).toNat=b.AQ.length-1:=by omega
   rw[h1]
 have w1:=w.HQ (u:=g);have f:=w1.HZ hu;refine⟨_,_,?_,⟨j,u,c,tt,G,by rw[e];exact f,by rw[e];exact hc,rfl⟩,w.C2.trans Bf⟩;rw[Ae,bo];simp only[abS,↓reduceIte,ld,i.Ab,w1.st (k:=2) (v0:=d) rfl (AU.cells hu)]
def aA5(w:RB h bi b F)(ba:BA b)(rm:BM b (n+4))(hm:Nm b.a)(ht:t.Sm)(hv:Bi t.Av av):MW h F 135 [.ptr (some (bi,0)),.agg (Cl t av)] (.tuple []) bi (b.ZA t):=by obtain⟨h1,g,f,w1,d⟩:=Ù w ba rm hm ht hv;obtain⟨h2,F2,r2,e,c⟩:=aFk w1 (Ih rm ht.Av ht.name);refine⟨_,_,?_,e,d.trans c⟩;rw[Ae,ķ];simp only[abS,↓reduceIte,f.Ab,r2.Ab]
def RB.mark(w:RB h bi b F)(rm:BM b n):∃v u,A7 h none (.ptr (some (bi,3)))=some v/\BG cx 137 [v,.agg [I 0,S [],.slnil]] h u h/\WrR h F bi 3 u {b with A6:=b.A6++[Cb.zero]}:=by
 obtain⟨g,f,c,tt,G,w,hc,rfl⟩:=w;obtain⟨fs,d,hf⟩:=hc;have ha:=rm.A6;have Hu:fs.length=b.A6.length:=by rw[<-d,Ao]
 have hp:Lg Cb.zero fs=fs:=Ad (by simp[Cb.zero]);obtain⟨u,i,P7,r2,hu⟩:=aHX (h:=h) (l:=fs) hf Ac (lX d λx hx=>((rm.DB x hx).2).1) (e:=⟨Cb.zero,.slnil,.inr ⟨rfl,rfl⟩⟩) (by unfold ZQ;decide);rw[hp] at hu;exact⟨c,u,w.l3,r2,w.st (k:=3) (v0:=c) rfl (AU.cells hu),⟨g,f,u,tt,G,w.KE (u:=u) (l:=b.A6++[Cb.zero]),⟨_,by rw[Bu,d,Bj,C4,P7],hu⟩,rfl⟩,Bf⟩
def RB.aFd(w:RB h bi b F)(rm:BM b n)(m:Int):∃v u x,A7 h none (.ptr (some (bi,6)))=some v/\AD (.append 1 8) [.slnil,v]=some u/\AD (.append 1 8) [u,.sl 1 [B8 m]]=some x/\WrR h F bi 6 x {b with tm:=b.tm++[m]}:=by obtain⟨i,d,c,tt,G,w,hc,rfl⟩:=w;have e:=rm.tm;have bX:AW=140737488355328:=rfl;obtain⟨u,g,hu⟩:=AU.FL (b:=8) w.t Ac;have f:=AU.JD (b:=8) (a:=m) hu Ac;have IG:DX (b.tm++[m]) (.sl 1 ((b.tm++[m]).map B8)):= .mk;exact⟨tt,u,_,w.l6,g,f,w.st (k:=6) (v0:=tt) rfl (AU.cells IG),⟨i,d,c,_,G,w.mC IG,hc,rfl⟩,Bf⟩
def UT(hk:t.k=2):b.DE t=
  (if t.name∈[aVh] then(b.HT t,false) else if t.name∈Ow then(b.ZA t,false) else if t.name∈[aVs] then(b.Fe t.name t.Av 2,false)
  else if t.name∈pv then(b.Fe t.name t.Av 3,false) else if t.name∈[aVx] then(b.Fe t.name t.Av 4,false) else if t.name∈[aVl] then({b.FA t with mode:=5},false)
  else if t.name∈[AM] then({b.FA t with A6:=(b.FA t).A6++[Cb.zero],fs:=false,mode:=18,tm:=(b.FA t).tm++[18]},false)
  else if t.name∈[aVk] then(b,false) else b.Jt.again 6):=by
 have st:∀ws,t.st ws↔t.name∈ws:=λws=>⟨λh=>h.2,λh=>⟨hk,h⟩⟩;have en:∀ws,¬t.en ws:=λws h=>by have:=h.1;omega
 have e:∀ws,¬t.Zy ws:=λws h=>by have:=h.1;omega
 have j:¬¬t.ok:=by unfold FF.ok;omega
 have f:¬t.ED:=Nw Ac;have i:¬t.k=1:=Ac;have g:¬t.k=4:=Ac;unfold BS.DE;rw[Ad j,Ad i];by_cases d:t.name∈[aVk];.have c:=dW (L:=[[aVh],Ow,[aVs],pv,[aVx],[aVl],[AM]]) d CA;rw[Af ((st _).2 d),Ad (c _ AH),Ad (c _ AH),Ad (c _ AH),Ad (c _ AH),Ad (c _ AH),Ad (c _ AH),Ad (c _ AH),Af d]
 .rw[Ad (λh=>d ((st _).1 h)),Ad (e _),Ad f,Ad g,Ad d];simp only[st,en,DF]
def aCw(w:RB h bi b F)(ba:BA b)(rm:BM b (n+6))(hm:Nm b.a)(ht:t.Sm)(hv:Bi t.Av av)(hs:t.st Hr):MW h F 41 [.ptr (some (bi,0)),.agg (Cl t av)] (.bool (b.DE t).2) bi (b.DE t).1:=by
 have hk:=hs.1;have q:¬t.k=1:=Ac;have p:¬t.k=4:=Ac;have k5:¬t.k=5:=Ac;have k3:¬t.k=3:=Ac;have m:=rZ (t:=t) (by unfold FF.ok;omega) av h;have j:=RG (t:=t) (Nw k5) av h;have A:=dW (L:=[[aVh],[aVl],[aVk]]) hs.2 CA;have E:=A [aVh] AH;have i:=Jo (t:=t) JP E ht av h;rw[UT hk,Ad E];by_cases v:t.name∈Ow;.rw[Af v];have f:=KL hk mY v ht av h;obtain⟨h1,y,d,w1,c⟩:=aA5 (n:=n+2) w ba rm hm ht hv;refine⟨_,_,?_,w1,c⟩;rw[Ae,Iz];simp only[abS,↓reduceIte,m.Ab,j.Ab,i.Ab,f.Ab,q,p,d.Ab]
 rw[Ad v];have f:=Jo mY v ht av h;by_cases u:t.name∈[aVs];.rw[Af u];have g:=KL hk ZG u ht av h;obtain⟨h1,y,d,w1,c⟩:=yD (n:=n+2) w ba rm hm ht hv 2;refine⟨_,_,?_,w1,c⟩;rw[Ae,Iz];simp only[abS,↓reduceIte,m.Ab,j.Ab,i.Ab,f.Ab,g.Ab,q,p,d.Ab]
 rw[Ad u];have g:=Jo ZG u ht av h;by_cases s:t.name∈pv;.rw[Af s];have x:=KL hk Ø s ht av h;obtain⟨h1,y,d,w1,c⟩:=yD (n:=n+2) w ba rm hm ht hv 3;refine⟨_,_,?_,w1,c⟩;rw[Ae,Iz];simp only[abS,↓reduceIte,m.Ab,j.Ab,i.Ab,f.Ab,g.Ab,x.Ab,q,p,d.Ab]
 rw[Ad s];have x:=Jo Ø s ht av h;by_cases r:t.name∈[aVx];.rw[Af r];have z:=KL hk US r ht av h;obtain⟨h1,y,d,w1,c⟩:=yD (n:=n+2) w ba rm hm ht hv 4;refine⟨_,_,?_,w1,c⟩;rw[Ae,Iz];simp only[abS,↓reduceIte,m.Ab,j.Ab,i.Ab,f.Ab,g.Ab,x.Ab,z.Ab,q,p,d.Ab]
 rw[Ad r];have z:=Jo US r ht av h;have D:=A [aVl] AH;have W:=Jo (t:=t) Kk D ht av h;have C:t.name∈[AM]:=by
  have key:∀w∈Hr,w∈Ow\/w∈[aVs]\/w∈pv\/w∈[aVx]\/w∈[AM]:=AP;rcases key _ hs.2 with h|h|h|h|h
  .exact absurd h v
  .exact absurd h u
  .exact absurd h s
  .exact absurd h r
  .exact h
 rw[Ad D,Af C];have V:=dY (t:=t) k3 aVk av h;have U:=KL hk I0 C ht av h;obtain⟨h1,y,d,w1,c⟩:=Ù (n:=n+2) w ba rm hm ht hv;have B:BM (b.FA t) (n+2):=Ih rm ht.Av ht.name;obtain⟨v2,u2,Z,r2,T,P,K⟩:=w1.mark B;obtain⟨S,O,J⟩:=aKo P false;obtain⟨R,N,H⟩:=Lk O 18;have X:BM {b.FA t with A6:=(b.FA t).A6++[Cb.zero],fs:=false,mode:=18} (n+1):=(B.qP (e:=Cb.zero) AH (λe he=>by
  rcases Ay.1 he with he|he
  .exact .inl he
  .exact .inr (by simpa using he)) ⟨AP,AP,λa ha=>by cases ha⟩:BM {b.FA t with A6:=(b.FA t).A6++[Cb.zero]} (n+1)).eq rfl rfl rfl rfl
 obtain⟨v5,u5,z5,Y,e5,e6,Q,M,G⟩:=N.aFd X 18;have em:AD (.Dk 1) [I 18]=some (.sl 1 [B8 18]):=rfl;refine⟨_,_,?_,M,(((c.trans K).trans J).trans H).trans G⟩;rw[Ae,Iz];simp only[abS,Nat.reduceLeDiff,↓reduceIte,AT,m.Ab,j.Ab,i.Ab,f.Ab,g.Ab,x.Ab,z.Ab,W.Ab,V.Ab,U.Ab,q,p,d.Ab,Z,r2.Ab,T,S,R,Y,e5,em,e6,Q]
def aA6(w:RB h bi b F)(g:Gz b (n+1000) o a)(ht:t.Sm)(hv:Bi t.Av av)(x:Int):MW h F 97 [.ptr (some (bi,0)),.agg (Cl t av),.int .i64 x] (.tuple []) bi (b.EL t.Av x):=by obtain⟨i,f,c,tt,G,w,hc,rfl⟩:=w;obtain⟨h',G',r,w',d⟩:=aJz (m:=n) w g.ok g.rm KH hv ht.Av x;exact⟨h',_,r,⟨i,f,c,tt,G',w',by have e:(b.EL t.Av x).A6=b.A6:=(by unfold BS.EL;split<;>rfl);rw[e];exact hc,rfl⟩,d⟩
def Ú(w:RB h bi b F)(v:Int):WrR h F bi 7 (.int .i64 v) {b with head:=v}:=by obtain⟨e,d,c,tt,G,w,hc,rfl⟩:=w;exact⟨w.st (k:=7) rfl rfl,⟨e,d,c,tt,G,w.put rfl rfl w.o w.t,hc,rfl⟩,Bf⟩
def aFl(w:RB h bi b F)(g:Gz b (n+1000) o a)(hm:Nm b.a)(ht:t.Sm)(hv:Bi t.Av av)(hk:t.k=2)(hn:t.name∈[aVh]):MW h F 140 [.ptr (some (bi,0)),.agg (Cl t av)] (.tuple []) bi (b.HT t):=by
 have i:=KL hk JP hn ht av h;have c:=aPd w g;unfold BS.HT;by_cases f:b.gC;.rw[Af (.inl f)];rw[Al f] at c;refine⟨_,_,?_,w,.refl⟩;rw[Ae,iC];simp only[abS,↓reduceIte,i.Ab,c.Ab]
 rw[Ah f] at c;obtain⟨v,l,d,_⟩:=w.lo;have le:=AU.CN d;by_cases e:b.AQ=[]
 .rw[Af (.inr e)];have j:¬(0:Int)<(b.AQ.length:Int):=by rw[e];decide
  refine⟨_,_,?_,w,.refl⟩;rw[Ae,iC];simp only[abS,↓reduceIte,i.Ab,c.Ab,l,le,j]
 have hp:0<b.AQ.length:=D7.2 e;rw[Ad (by simp[f,e]),show EI b.AQ 0=b.AQ[0] from HE hp];have ea:=AU.BL (k:= .i64) d hp;have j:(0:Int)<(b.AQ.length:Int):=Ac;obtain⟨h1,q,p,w1,m⟩:=aA6 w g ht hv b.AQ[0].node;refine⟨_,_,?_,w1,m⟩;rw[Ae,iC];simp only[BE,↓reduceIte,ZP,i.Ab,c.Ab,l,le,j,show AD (.Ff 4) [v,I 0]=_ from ea,E9,p.Ab]
def aKp(w:RB h bi b F)(g:Gz b (n+1000) o a)(hm:Nm b.a)(ht:t.Sm)(hv:Bi t.Av av)(hs:t.st [aVh]):MW h F 44 [.ptr (some (bi,0)),.agg (Cl t av)] ff bi (b.HT t):=by have hk:=hs.1;have e:=dW (L:=[Hr]) hs.2 CA;have f:=e Hr AH;obtain⟨h1,i,d,w1,c⟩:=aFl w g hm ht hv hk hs.2;refine⟨_,_,?_,w1,c⟩;rw[Ae,aDZ];simp only[abS,↓reduceIte,(Ac:¬t.k=5),(Ac:¬t.k=4),(Ac:¬t.k=6),AL hk,HH Qx.len (show t.name.length<9223372036854775807 by have:=ht.name;omega),Qx.w,Ah f,d.Ab]
def qb(hk:t.k=3):b.DE t=
  (if t.name∈[aVk] then({b.Jt with mode:=6},false) else if t.name∈[AM] then(b.Cy,false) else if t.name∈[aVn,aVh,[98,114]] then b.Jt.again 6 else(b,false)):=by
 have st:∀ws,¬t.st ws:=λws h=>by have:=h.1;omega
 have en:∀ws,t.en ws↔t.name∈ws:=λws=>⟨λh=>h.2,λh=>⟨hk,h⟩⟩;have f:t.Zy dJ↔¬(t.name∈[aVk]\/t.name∈[AM]\/t.name∈[aVn,aVh,[98,114]]):=by
  have e:t.name∈dJ↔(t.name∈[aVk]\/t.name∈[AM]\/t.name∈[aVn,aVh,[98,114]]):=by simp only[dJ,AM,AS,KY,sE]
  rw[<-e];exact⟨λh=>h.2,λh=>⟨hk,h⟩⟩
 have m:¬¬t.ok:=by unfold FF.ok;omega
 have i:¬t.ED:=Nw Ac;have l:¬t.k=1:=Ac;have j:¬t.k=4:=Ac;unfold BS.DE;rw[Ad m,Ad l,Ad (st _)];by_cases c:t.name∈[aVk];.rw[Ad (λh=>(f.1 h) (.inl c)),Af c];simp only[st,en,i,j,c,DF,BJ]
 by_cases d:t.name∈[AM];.rw[Ad (λh=>(f.1 h) (.inr (.inl d))),Ad c,Af d];simp only[st,en,i,j,c,d,DF,BJ]
 by_cases g:t.name∈[aVn,aVh,[98,114]];.rw[Ad (λh=>(f.1 h) (.inr (.inr g))),Ad c,Ad d,Af g];simp only[st,en,i,j,c,d,DF,BJ]
 .rw[Af (f.2 (by simp only[c,d,g,aFq,Az])),Ad c,Ad d,Ad g]
def aFm(w:RB h bi b F)(g:Gz b (n+1004) o a)(hm:Nm b.a)(ht:t.Sm)(hv:Bi t.Av av)(V:t.st [aVh]->MW h F 44 [.ptr (some (bi,0)),.agg (Cl t av)] ff bi (b.HT t)):MW h F 41 [.ptr (some (bi,0)),.agg (Cl t av)] (.bool (b.DE t).2) bi (b.DE t).1:=by
 by_cases C:¬t.ok
 .have e:b.DE t=(b,false):=by unfold BS.DE;rw[Af C]
  rw[e];refine⟨_,_,?_,w,.refl⟩;rw[Ae,Iz];simp only[abS,↓reduceIte,(je C av h).Ab]
 have j:=rZ (FE.1 C) av h;by_cases f:t.k=1
 .have e:b.DE t=(b,false):=by unfold BS.DE;rw[Ad C,Af f]
  rw[e];refine⟨_,_,?_,w,.refl⟩;rw[Ae,Iz];simp only[abS,↓reduceIte,j.Ab,AL f]
 by_cases G:t.ED
 .have e:b.DE t=(b.Q6 t.r,false):=by have W:=G.1;unfold BS.DE;rw[Ad C,Ad f,Ad (show¬t.st _ from λh=>by have:=h.1;omega),Ad (show¬t.Zy _ from λh=>by have:=h.1;omega),Af G]
  rw[e];obtain⟨h1,B,d,w1,c⟩:=È w (g.dn (n':=n+5) Ac) hm t.r;refine⟨_,_,?_,w1,c⟩;rw[Ae,Iz];simp only[abS,↓reduceIte,j.Ab,f,(jd G av h).Ab,d.Ab]
 have p:=RG G av h;by_cases m:t.k=4
 .have e:b.DE t=(b.Fc t.data 0,false):=by unfold BS.DE;rw[Ad C,Ad f,Ad (show¬t.st _ from λh=>by have:=h.1;omega),Ad (show¬t.Zy _ from λh=>by have:=h.1;omega),Ad G,Af m]
  rw[e];obtain⟨h1,B,d,w1,c⟩:=UQ (s:=t.data) w (g.dn (n':=n+1) Ac) hm (by have:=ht.data;omega) 0;refine⟨_,_,?_,w1,c⟩;rw[Ae,Iz];simp only[abS,↓reduceIte,j.Ab,f,p.Ab,AL m,d.Ab]
 by_cases A:t.k=2
 .by_cases P:t.name∈Hr;.exact aCw (n:=n) w g.ok (g.rm.le Ac) hm ht hv ⟨A,P⟩
  rw[UT A];by_cases q:t.name∈[aVh];.rw[Af q];obtain⟨h1,B,d,w1,c⟩:=V ⟨A,q⟩;refine⟨_,_,?_,w1,c⟩;rw[Ae,Iz];simp only[abS,↓reduceIte,j.Ab,f,p.Ab,m,(KL A JP q ht av h).Ab,d.Ab]
  have hg:∀ws:List Aj,(∀w∈ws,w∈Hr)->t.name∉ws:=λws hw hx=>P (hw _ hx);have D:=hg Ow AP;have T:=hg [aVs] AP;have S:=hg pv AP;have R:=hg [aVx] AP;have Q:=hg [AM] AP;have z:=Jo JP q ht av h;have y:=Jo mY D ht av h;have E:=Jo ZG T ht av h;have L:=Jo Ø S ht av h;have K:=Jo US R ht av h;rw[Ad q,Ad D,Ad T,Ad S,Ad R];by_cases I:t.name∈[aVl];.rw[Af I];obtain⟨h1,B,d,w1,c⟩:=dO (n:=n) w (g.dn Ac) hm ht hv;obtain⟨x,v,u⟩:=Lk w1 5;refine⟨_,_,?_,v,c.trans u⟩;rw[Ae,Iz];simp only[abS,↓reduceIte,j.Ab,f,p.Ab,m,z.Ab,y.Ab,E.Ab,L.Ab,K.Ab,(KL A Kk I ht av h).Ab,d.Ab,x]
  have O:=Jo Kk I ht av h;have i:¬t.k=3:=Ac;have N:=dY (t:=t) i aVk av h;have M:=Jo I0 Q ht av h;have Xp:=dY (t:=t) i aVg av h;rw[Ad I,Ad Q];by_cases H:t.name∈[aVk];.rw[Af H];refine⟨_,_,?_,w,.refl⟩;rw[Ae,Iz];simp only[abS,↓reduceIte,j.Ab,f,p.Ab,m,z.Ab,y.Ab,E.Ab,L.Ab,K.Ab,O.Ab,N.Ab,M.Ab,Xp.Ab,(KL A Nv H ht av h).Ab]
  rw[Ad H];obtain⟨h1,B,d,w1,c⟩:=dQ w g;obtain⟨x,v,u⟩:=Lk w1 6;refine⟨_,_,?_,v,c.trans u⟩;rw[Ae,Iz];simp only[abS,↓reduceIte,j.Ab,f,p.Ab,m,z.Ab,y.Ab,E.Ab,L.Ab,K.Ab,O.Ab,N.Ab,M.Ab,Xp.Ab,(Jo Nv H ht av h).Ab,i,d.Ab,x,BS.again]
 have z:=λl=>dX (t:=t) A l av h;by_cases i:t.k=3
 .rw[qb i];by_cases J:t.name∈[aVk];.rw[Af J];obtain⟨h1,B,d,w1,c⟩:=dQ w g;obtain⟨x,v,u⟩:=Lk w1 6;refine⟨_,_,?_,v,c.trans u⟩;rw[Ae,Iz];simp only[abS,↓reduceIte,j.Ab,f,p.Ab,m,(z _).Ab,(VP i Nv J ht av h).Ab,d.Ab,x]
  rw[Ad J];have y:=VQ Nv J ht av h;by_cases q:t.name∈[AM];.rw[Af q];obtain⟨h1,B,d,w1,c⟩:=aFj w g;refine⟨_,_,?_,w1,c⟩;rw[Ae,Iz];simp only[abS,↓reduceIte,j.Ab,f,p.Ab,m,(z _).Ab,y.Ab,(VP i I0 q ht av h).Ab,d.Ab]
  rw[Ad q];have E:=VQ I0 q ht av h;by_cases D:t.name∈[aVn,aVh,[98,114]];.rw[Af D];obtain⟨h1,B,d,w1,c⟩:=dQ w g;obtain⟨x,v,u⟩:=Lk w1 6;refine⟨_,_,?_,v,c.trans u⟩;rw[Ae,Iz];simp only[abS,↓reduceIte,j.Ab,f,p.Ab,m,(z _).Ab,y.Ab,E.Ab,AL i,(VP i mZ D ht av h).Ab,d.Ab,x,BS.again]
  .rw[Ad D];refine⟨_,_,?_,w,.refl⟩;rw[Ae,Iz];simp only[abS,↓reduceIte,j.Ab,f,p.Ab,m,(z _).Ab,y.Ab,E.Ab,AL i,(VQ mZ D ht av h).Ab]
 have e:b.DE t=b.Jt.again 6:=by have st:∀ws,¬t.st ws:=λws h=>A h.1;have en:∀ws,¬t.en ws:=λws h=>i h.1;have U:∀ws,¬t.Zy ws:=λws h=>i h.1;unfold BS.DE;simp only[C,f,G,m,st,en,U,DF]
 rw[e];have y:=λl=>dY (t:=t) i l av h;obtain⟨h1,B,d,w1,c⟩:=dQ w g;obtain⟨x,v,u⟩:=Lk w1 6;refine⟨_,_,?_,v,c.trans u⟩;rw[Ae,Iz];simp only[abS,↓reduceIte,j.Ab,f,p.Ab,m,(z _).Ab,(y _).Ab,i,d.Ab,x,BS.again]
def aPe(w:RB h bi b F)(g:Gz b (n+1000) o a)(hm:Nm b.a)(ht:t.Sm)(hv:Bi t.Av av)(K:t.st [aVh]->MW h F 44 [.ptr (some (bi,0)),.agg (Cl t av)] ff bi (b.HT t)):MW h F 40 [.ptr (some (bi,0)),.agg (Cl t av)] (.bool (b.FT t).2) bi (b.FT t).1:=by
 unfold BS.FT;by_cases A:¬t.ok;.rw[Af A];refine⟨_,_,?_,w,.refl⟩;rw[Ae,Qr];simp only[abS,↓reduceIte,(je A av h).Ab]
 have e:=rZ (FE.1 A) av h;rw[Ad A];by_cases c:t.k=1;.have m:¬t.ED:=Nw Ac;rw[Af c];refine⟨_,_,?_,w,.refl⟩;rw[Ae,Qr];simp only[abS,↓reduceIte,e.Ab,(RG m av h).Ab,AL c]
 rw[Ad c];by_cases m:t.ED;.rw[Af m];refine⟨_,_,?_,w,.refl⟩;rw[Ae,Qr];simp only[abS,↓reduceIte,e.Ab,(jd m av h).Ab]
 have j:=RG m av h;rw[Ad m];by_cases u:t.Zy eHB;.have p:=u.1;rw[Af u];have r:=λl=>dX (t:=t) Ac l av h;refine⟨_,_,?_,w,.refl⟩;rw[Ae,Qr];simp only[abS,↓reduceIte,e.Ab,j.Ab,c,(Ac:¬t.k=4),(r _).Ab,AL p,(VQ aCu u.2 ht av h).Ab]
 rw[Ad u];by_cases i:t.k=4;.rw[Af i];obtain⟨h1,G,d,w1,f⟩:=UQ (s:=t.data) w (g.dn (n':=n+1) Ac) hm (by have:=ht.data;omega) 0;refine⟨_,_,?_,w1,f⟩;rw[Ae,Qr];simp only[abS,↓reduceIte,e.Ab,c,j.Ab,AL i,d.Ab]
 rw[Ad i];by_cases q:t.st [aVh];.rw[Af q];obtain⟨h1,G,d,w1,f⟩:=K q;refine⟨_,_,?_,w1,f⟩;rw[Ae,Qr];simp only[abS,↓reduceIte,e.Ab,c,j.Ab,i,(KL q.1 JP q.2 ht av h).Ab,d.Ab]
 rw[Ad q];have r:BG cx 132 [.agg (Cl t av),.str aVh] h ff h:=by
  by_cases v:t.k=2;.exact Jo JP (λh=>q ⟨v,h⟩) ht av h
  .exact dX v _ av h
 by_cases x:t.st [aVk];.rw[Af x];obtain⟨h1,G,d,w1,f⟩:=dO w (g.dn (n':=n+4) Ac) hm ht hv;rw[show b.LP 1=b.a.len+1 from Af AP];obtain⟨z,E,C⟩:=Ú w1 (b.a.len+1);obtain⟨y,D,B⟩:=Lk E 4;refine⟨_,_,?_,D,(f.trans C).trans B⟩;rw[Ae,Qr];simp only[abS,↓reduceIte,e.Ab,c,j.Ab,i,r.Ab,(KL x.1 Nv x.2 ht av h).Ab,d.Ab,z,y]
 rw[Ad x];have I:BG cx 132 [.agg (Cl t av),.str aVk] h ff h:=by
  by_cases v:t.k=2;.exact Jo Nv (λh=>x ⟨v,h⟩) ht av h
  .exact dX v _ av h
 have H:=aKn aVk h;obtain⟨h1,G,d,w1,f⟩:=dO (t:=Ra aVk) (av:= .slnil) w (g.dn (n':=n+4) Ac) hm (Q4 AP) (.inr ⟨rfl,rfl⟩);rw[show b.LP 1=b.a.len+1 from Af AP];obtain⟨z,E,C⟩:=Ú w1 (b.a.len+1);obtain⟨y,D,B⟩:=Lk E 4;refine⟨_,_,?_,D,(f.trans C).trans B⟩;rw[Ae,Qr];by_cases p:t.k=3;.have J:t.name∈eHB:=Rf λh=>u ⟨p,h⟩;simp only[abS,↓reduceIte,e.Ab,c,j.Ab,i,r.Ab,I.Ab,AL p,(VP p aCu J ht av h).Ab,H.Ab,d.Ab,z,y,BS.again]
 .simp only[abS,↓reduceIte,e.Ab,c,j.Ab,i,r.Ab,I.Ab,p,H.Ab,d.Ab,z,y,BS.again]
def aPf(w:RB h bi b F)(g:Gz b (n+1004) o a)(hm:Nm b.a)(ht:t.Sm)(hv:Bi t.Av av)(P:t.st [aVh]->MW h F 44 [.ptr (some (bi,0)),.agg (Cl t av)] ff bi (b.HT t)):MW h F 42 [.ptr (some (bi,0)),.agg (Cl t av)] (.bool (b.FU t).2) bi (b.FU t).1:=by
 obtain⟨hi,V,J,wi,D⟩:=aFm w g hm ht hv P;have H:∀{l:Aj} {ws:List Aj},Wd l ws->¬t.st ws->BG cx 132 [.agg (Cl t av),.str l] h ff h:=λ{l ws} w c=>by have q:=aA3 (t:=t) w ht.name av h;rwa [Ah c] at q
 have R:∀{l:Aj} {ws:List Aj},Wd l ws->¬t.en ws->BG cx 133 [.agg (Cl t av),.str l] h ff h:=λ{l ws} w c=>by have q:=aA4 (t:=t) w ht.name av h;rwa [Ah c] at q
 unfold BS.FU;by_cases C:¬t.ok;.rw[Af C];refine⟨_,_,?_,w,.refl⟩;rw[Ae,NJ];simp only[abS,↓reduceIte,(je C av h).Ab]
 have e:=rZ (FE.1 C) av h;rw[Ad C];by_cases d:t.k=1;.rw[Af d];refine⟨_,_,?_,w,.refl⟩;rw[Ae,NJ];simp only[abS,↓reduceIte,e.Ab,AL d]
 rw[Ad d];have G:Wd [98,114] [[98,114]]:=Ö;by_cases v:t.st sHN;.have K:=v.1;have O:=dW (L:=[[aVh],px]) v.2 CA;have m:¬t.ED:=Nw Ac;have i:¬t.k=3:=Ac;have f:¬t.k=4:=Ac;rw[Af v];refine⟨_,_,?_,w,.refl⟩;rw[Ae,NJ];simp only[BE,↓reduceIte,ZP,e.Ab,d,(Jo JP (O _ AH) ht av h).Ab,(dY i aVl av h).Ab,(RG m av h).Ab,f,(Jo yC (O _ AH) ht av h).Ab,(KL K aCv v.2 ht av h).Ab]
 rw[Ad v];by_cases u:t.Zy eNo;.have i:=u.1;have K:¬t.k=2:=Ac;have m:¬t.ED:=Nw Ac;have f:¬t.k=4:=Ac;have j:=λl=>dX (t:=t) K l av h;have U:t.name∉[aVl]:=λh=>u.2 (by rw[BP.1 h];decide);have T:t.name∉[[98,114]]:=λh=>u.2 (by rw[BP.1 h];decide);rw[Af u];refine⟨_,_,?_,w,.refl⟩;rw[Ae,NJ];simp only[abS,↓reduceIte,e.Ab,d,(j _).Ab,(VQ Kk U ht av h).Ab,(RG m av h).Ab,f,AL i,(VQ Ö T ht av h).Ab]
 rw[Ad u];by_cases s:t.st [aVh];.rw[Af s];obtain⟨h1,Q,p,w1,x⟩:=P s;refine⟨_,_,?_,w1,x⟩;rw[Ae,NJ];simp only[abS,↓reduceIte,e.Ab,d,(KL s.1 JP s.2 ht av h).Ab,p.Ab]
 rw[Ad s];have j:=H JP s;by_cases r:t.en [aVl];.rw[Af r];obtain⟨h1,Q,p,w1,x⟩:=dQ w g;obtain⟨A,I,E⟩:=Lk w1 4;refine⟨_,_,?_,I,x.trans E⟩;rw[Ae,NJ];simp only[abS,↓reduceIte,e.Ab,d,j.Ab,(VP r.1 Kk r.2 ht av h).Ab,p.Ab,A]
 rw[Ad r];have y:=R Kk r;by_cases m:t.ED;.rw[Af m];refine⟨_,_,?_,wi,D⟩;rw[Ae,NJ];simp only[abS,↓reduceIte,e.Ab,d,j.Ab,y.Ab,(jd m av h).Ab,J.Ab]
 rw[Ad m];have B:=RG m av h;by_cases f:t.k=4;.rw[Af f];refine⟨_,_,?_,wi,D⟩;rw[Ae,NJ];simp only[abS,↓reduceIte,e.Ab,d,j.Ab,y.Ab,B.Ab,AL f,J.Ab]
 rw[Ad f];by_cases z:t.st px;.rw[Af z];refine⟨_,_,?_,wi,D⟩;rw[Ae,NJ];simp only[abS,↓reduceIte,e.Ab,d,j.Ab,y.Ab,B.Ab,f,(KL z.1 yC z.2 ht av h).Ab,J.Ab]
 rw[Ad z];have N:=H yC z;have M:=H aCv v;obtain⟨h1,Q,p,w1,x⟩:=dQ w g;obtain⟨A,I,E⟩:=Lk w1 4;refine⟨_,_,?_,I,x.trans E⟩;rw[Ae,NJ];by_cases i:t.k=3
 .have S:t.name∈[[98,114]]:=by have h1:t.name∈eNo:=Rf λh=>u ⟨i,h⟩;have h2:t.name∉[aVl]:=λh=>r ⟨i,h⟩;simp only[eNo,AS,KY,sE] at h1 h2⊢;exact h1.resolve_left h2
  simp only[abS,↓reduceIte,e.Ab,d,j.Ab,y.Ab,B.Ab,f,N.Ab,M.Ab,AL i,(VP i Ö S ht av h).Ab,p.Ab,A,BS.again]
 .simp only[abS,↓reduceIte,e.Ab,d,j.Ab,y.Ab,B.Ab,f,N.Ab,M.Ab,i,p.Ab,A,BS.again]
def MY{nm:Aj}{l:List A5}{sp:Int}:(b.Ej nm l sp).head=b.head:=by
 unfold BS.Ej;split;.simp only[BS.El];split<;>rfl
 .rfl
def ZH:b.Jt.head=b.head:=by unfold BS.Jt;split<;>rfl
def sB(hs:t.st Hr):(b.DE t).1.head=b.head:=by
 have c:=dW (L:=[[aVh],[aVl],[aVk]]) hs.2 CA;rw[UT hs.1,Ad (c [aVh] AH)];split;.exact ZH.trans MY
 split;.exact MY
 split;.exact MY
 split;.exact MY
 rw[Ad (c [aVl] AH)];split;.exact MY
 rw[Ad (c [aVk] AH)];exact ZH
def aPg(w:RB h bi b F)(g:Gz b (n+1005) o a)(hm:Nm b.a)(ht:t.Sm)(hv:Bi t.Av av)(hh:t.st [aVh]->MW h F 44 [.ptr (some (bi,0)),.agg (Cl t av)] ff bi (b.HT t)):MW h F 43 [.ptr (some (bi,0)),.agg (Cl t av)] (.bool (b.HL t).2) bi (b.HL t).1:=by
 have M:∀{l:Aj} {ws:List Aj},Wd l ws->¬t.st ws->BG cx 132 [.agg (Cl t av),.str l] h ff h:=λ{l ws} w c=>by have q:=aA3 (t:=t) w ht.name av h;rwa [Ah c] at q
 have wN:∀{l:Aj} {ws:List Aj},Wd l ws->¬t.en ws->BG cx 133 [.agg (Cl t av),.str l] h ff h:=λ{l ws} w c=>by have q:=aA4 (t:=t) w ht.name av h;rwa [Ah c] at q
 unfold BS.HL;by_cases U:¬t.ok;.rw[Af U];refine⟨_,_,?_,w,.refl⟩;rw[Ae,L8];simp only[abS,↓reduceIte,(je U av h).Ab]
 have j:=rZ (FE.1 U) av h;rw[Ad U];by_cases f:t.k=1;.rw[Af f];refine⟨_,_,?_,w,.refl⟩;rw[Ae,L8];simp only[abS,↓reduceIte,j.Ab,AL f]
 rw[Ad f];by_cases J:t.st [aVk];.have X:=J.1;have T:=dW (L:=[[aVh],[aVn],[aVr],Hr]) J.2 CA;have C:¬t.ED:=Nw Ac;have p:¬t.k=3:=Ac;have e:¬t.k=4:=Ac;rw[Af J];refine⟨_,_,?_,w,.refl⟩;rw[Ae,L8];simp only[BE,↓reduceIte,ZP,j.Ab,f,(RG C av h).Ab,e,(Jo JP (T _ AH) ht av h).Ab,(Jo m0 (T _ AH) ht av h).Ab,(Jo Qy (T _ AH) ht av h).Ab,(Jo Qx (T _ AH) ht av h).Ab,(dY p aVg av h).Ab,(KL X Nv J.2 ht av h).Ab]
 rw[Ad J];have qh:=M Nv J;by_cases H:t.Zy Sq
 .have p:=H.1;have X:¬t.k=2:=Ac;have C:¬t.ED:=Nw Ac;have e:¬t.k=4:=Ac;have A:=λl=>dX (t:=t) X l av h;have n1:t.name∉[AM]:=λh=>H.2 (by rw[BP.1 h];decide);have n2:t.name∉[aVn,aVh,[98,114]]:=λh=>H.2 (by have key:∀w∈[aVn,aVh,[98,114]],w∈Sq:=AP;exact key _ h)
  rw[Af H];refine⟨_,_,?_,w,.refl⟩;rw[Ae,L8];simp only[abS,↓reduceIte,j.Ab,f,(A _).Ab,(RG C av h).Ab,e,(VQ I0 n1 ht av h).Ab,AL p,(VQ mZ n2 ht av h).Ab]
 rw[Ad H];by_cases C:t.ED;.rw[Af C];obtain⟨h1,K,d,w1,i⟩:=È w (g.dn (n':=n+5) Ac) hm t.r;refine⟨_,_,?_,w1,i⟩;rw[Ae,L8];simp only[abS,↓reduceIte,j.Ab,f,(jd C av h).Ab,d.Ab]
 rw[Ad C];have B:=RG C av h;by_cases e:t.k=4;.rw[Af e];obtain⟨h1,K,d,w1,i⟩:=UQ (s:=t.data) w (g.dn (n':=n+1) Ac) hm (by have:=ht.data;omega) 0;refine⟨_,_,?_,w1,i⟩;rw[Ae,L8];simp only[abS,↓reduceIte,j.Ab,f,B.Ab,AL e,d.Ab]
 rw[Ad e];by_cases G:t.st [aVh];.rw[Af G];obtain⟨h1,K,d,w1,i⟩:=hh G;refine⟨_,_,?_,w1,i⟩;rw[Ae,L8];simp only[abS,↓reduceIte,j.Ab,f,B.Ab,e,(KL G.1 JP G.2 ht av h).Ab,d.Ab]
 rw[Ad G];have A:=M JP G;by_cases Q:t.st [aVn];.rw[Af Q];obtain⟨h1,K,d,w1,i⟩:=dO w (g.dn (n':=n+4) Ac) hm ht hv;obtain⟨s2,w2,x2⟩:=aKo w1 false;obtain⟨m,y,x⟩:=Lk w2 7;refine⟨_,_,?_,y,(i.trans x2).trans x⟩;rw[Ae,L8];simp only[abS,↓reduceIte,j.Ab,f,B.Ab,e,A.Ab,(KL Q.1 m0 Q.2 ht av h).Ab,d.Ab,s2,m]
 rw[Ad Q];have N:=M m0 Q;by_cases P:t.st [aVr];.rw[Af P];obtain⟨h1,K,d,w1,i⟩:=dO w (g.dn (n':=n+4) Ac) hm ht hv;obtain⟨m,y,x⟩:=Lk w1 20;refine⟨_,_,?_,y,i.trans x⟩;rw[Ae,L8];simp only[abS,↓reduceIte,j.Ab,f,B.Ab,e,A.Ab,N.Ab,(KL P.1 Qy P.2 ht av h).Ab,d.Ab,m]
 rw[Ad P];have R:=M Qy P;by_cases D:t.st Hr
 .rw[Af D];obtain⟨v,l2,Y,wr⟩:=w.lo;have l7:=w.Wv.2.2.2;have bX:AW=140737488355328:=rfl;have ho:=g.rm.AQ;obtain⟨e1,ee1,he1⟩:=AU.FL (b:=40) Y Ac;obtain⟨u,ee2,hu⟩:=AU.HQ (b:=40) he1 (AU.mk (z:=4) (AE:=[(BS.HK b.head).row])) (by rw[Ao,A9];omega);have sI:BZ (b.AQ++[BS.HK b.head]) u:=by show AU 4 ((b.AQ++[BS.HK b.head]).map Item.row) u;rw[Bu];exact hu
  obtain⟨⟨m,y,x⟩,_⟩:=wr sI [];rw[By] at m y x;obtain⟨b1,m1⟩:=mT (g.dn (n':=n+6+1) Ac);obtain⟨h4,F4,r4,w4,x4⟩:=aCw y b1 m1 hm ht hv D;obtain⟨b4,m4⟩:=UP b1 m1 ht D;obtain⟨v5,l5,Z,V⟩:=w4.lo;have O:=w4.Wv.2.2.2;rw[sB D] at O;have aPh:A7 h4 none (.ptr (some (bi,7)))=some (.int .i64 b.head):=O;obtain⟨u6,t6,r6,hu6⟩:=aHQ (h:=h4) Z (by have:=m4.AQ;omega) b.head;obtain⟨⟨s7,w7,x7⟩,x6⟩:=V hu6 t6;have em:AD (.Ch [I 0,I 0,S [],ff] [(0,1),(1,1),(2,1)]) [.int .i64 b.head,I 1,S aVk]=some (.agg (BS.HK b.head).row):=rfl;have xF:AD (.Dk 4) [.agg (BS.HK b.head).row]=some (.sl 4 [(BS.HK b.head).row]):=rfl;unfold BS.Lj;refine⟨_,_,?_,w7,((x.trans x4).trans x6).trans x7⟩;rw[Ae,L8];simp only[abS,↓reduceIte,j.Ab,f,B.Ab,e,A.Ab,N.Ab,R.Ab,(KL D.1 Qx D.2 ht av h).Ab,l2,ee1,l7,em,xF,ee2,m,r4.Ab,l5,aPh,r6.Ab,s7]
 rw[Ad D];have W:=M Qx D;by_cases E:t.en [AM];.rw[Af E];obtain⟨h1,K,d,w1,i⟩:=aFm (n:=n) w (g.dn Ac) hm ht hv hh;refine⟨_,_,?_,w1,i⟩;rw[Ae,L8];simp only[abS,↓reduceIte,j.Ab,f,B.Ab,e,A.Ab,N.Ab,R.Ab,W.Ab,(VP E.1 I0 E.2 ht av h).Ab,d.Ab]
 rw[Ad E];have q6:=wN I0 E;have q7:=aKn aVn h;obtain⟨h1,K,d,w1,i⟩:=dO (t:=Ra aVn) (av:= .slnil) w (g.dn (n':=n+4) Ac) hm (Q4 AP) (.inr ⟨rfl,rfl⟩);obtain⟨m,y,x⟩:=Lk w1 7;refine⟨_,_,?_,y,i.trans x⟩;rw[Ae,L8];by_cases p:t.k=3
 .have s5:t.name∈[aVn,aVh,[98,114]]:=by have h1:t.name∈Sq:=Rf λh=>H ⟨p,h⟩;have h2:t.name∉[AM]:=λh=>E ⟨p,h⟩;have key:∀w∈Sq,w∈[AM]\/w∈[aVn,aVh,[98,114]]:=AP;exact(key _ h1).resolve_left h2
  simp only[abS,↓reduceIte,j.Ab,f,B.Ab,e,A.Ab,N.Ab,R.Ab,W.Ab,q6.Ab,qh.Ab,AL p,(VP p mZ s5 ht av h).Ab,q7.Ab,d.Ab,m,BS.again]
 .simp only[abS,↓reduceIte,j.Ab,f,B.Ab,e,A.Ab,N.Ab,R.Ab,W.Ab,q6.Ab,qh.Ab,p,q7.Ab,d.Ab,m,BS.again]
end
end Go.Am
end
