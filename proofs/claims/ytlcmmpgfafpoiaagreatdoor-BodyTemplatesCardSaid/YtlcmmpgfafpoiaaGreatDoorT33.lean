/- Lemmas -/
import Derived.Test.YtlcmmpgfafpoiaaGreatDoorT31
set_option linter.all false
set_option maxRecDepth 100000
section
namespace Go.Am
open Go
section
variable{t:Gk}{av:Aa}{h:Ah}
def aJl(r:Int):JQ cx 276 [.int .u8 r] (.bool (decide (Y5 r))):=by
 rw[L4,Ĩ];by_cases h1:r=9;.subst h1;simp[Y5]
 by_cases h2:r=10;.subst h2;simp[Y5]
 by_cases e:r=12;.subst e;simp[Y5]
 by_cases d:r=13;.subst d;simp[Y5]
 by_cases c:r=32;.subst c;simp[Y5]
 have:¬Y5 r:=by unfold Y5;omega
 simp[h1,h2,e,d,c,this]
def aEq(t:Gk)(av:Aa)(h:Ah):BK cx 127 [.agg (Dm t av)] h (.bool (decide t.H7)) h:=by
 rw[Ae,Ă];by_cases d:t.k=5
 .by_cases h0:0<=t.r
  .by_cases h1:t.r<128
   .have e:IntKind.u8.wrap t.r=t.r:=by rw[IntKind.wrap_u8];omega
    have c:decide t.H7=decide (Y5 t.r):=Db.2 (by unfold Gk.H7;exact⟨λh=>h.2,λh=>⟨d,h⟩⟩);simp only[abS,Dm,AM d,h0,h1,Qq,e,(aJl t.r).B7 rfl rfl,c]
   .have c:decide t.H7=false:=Aq λh=>by unfold Gk.H7 Y5 at h;have h2:=h.2;omega
    simp only[abS,Dm,AM d,h0,h1,c]
  .have c:decide t.H7=false:=Aq λh=>by unfold Gk.H7 Y5 at h;have h2:=h.2;omega
   simp only[abS,Dm,AM d,h0,c]
 .have c:decide t.H7=false:=Aq λh=>d h.1;simp only[abS,Dm,d,c]
def aJm(t:Gk)(av:Aa)(h:Ah):BK cx 126 [.agg (Dm t av)] h (.bool (decide ¬t.ok)) h:=by
 rw[Ae,ā];by_cases h1:t.k<1;.have e:decide (¬t.ok)=true:=As (by unfold Gk.ok;omega);simp only[abS,Dm,h1,e,Dx,DH]
 .by_cases h2:6<t.k;.have e:decide (¬t.ok)=true:=As (by unfold Gk.ok;omega);simp only[abS,Dm,h1,h2,e,Dx,DH]
  .have e:decide (¬t.ok)=false:=Aq λh=>h (by unfold Gk.ok;omega);simp only[abS,Dm,h1,h2,e,Dx,DH]
structure Wd(l:An)(ws:List An):Prop where
 len:l.length<9223372036854775806
 w:∀s,Ga l s=decide (s∈ws)
def Tm{l:An}{ws:List An}(h0:(decide (l.length<9223372036854775806))=true)(h1:Dp [] l=ws)(h2:ws.all (λw=> !w.isEmpty&& !w.contains 32)=true):Wd l ws:=⟨GH h0,λs=>Ec h1 h2⟩
def aEr{l:An}{ws:List An}(w:Wd l ws)(ht:t.name.length<=1000)(av:Aa)(h:Ah):BK cx 132 [.agg (Dm t av),.str l] h (.bool (decide (t.st ws))) h:=by
 rw[Ae,yT];by_cases c:t.k=2
 .have e:decide (t.st ws)=decide (t.name∈ws):=by unfold Gk.st;simp[c]
  simp only[abS,Dm,AM c,HY w.len (Ab:t.name.length<9223372036854775807),w.w,e]
 .have e:decide (t.st ws)=false:=by unfold Gk.st;simp[c]
  simp only[abS,Dm,c,e]
def aEs{l:An}{ws:List An}(w:Wd l ws)(ht:t.name.length<=1000)(av:Aa)(h:Ah):BK cx 133 [.agg (Dm t av),.str l] h (.bool (decide (t.en ws))) h:=by
 rw[Ae,yU];by_cases c:t.k=3
 .have e:decide (t.en ws)=decide (t.name∈ws):=by unfold Gk.en;simp[c]
  simp only[abS,Dm,AM c,HY w.len (Ab:t.name.length<9223372036854775807),w.w,e]
 .have e:decide (t.en ws)=false:=by unfold Gk.en;simp[c]
  simp only[abS,Dm,c,e]
end
section
variable{h h':Ah}{bi:Nat}{b b':BS}{F:Nat->Prop}{n o a:Nat}{t:Gk}{av:Aa}
def lF:Wd aTT [aTT]:=Tm AU Di Di
end
section
variable{h h':Ah}{bi:Nat}{b b':BS}{F:Nat->Prop}{n o a:Nat}{t:Gk}{av:Aa}{nm:An}{ws:List An}
def mq(w:RB h bi b F)(g:Gz b (n+4*a) o a)(hm:Nm b.a):MV h F 93 [.ptr (some (bi,0))] (.tuple []) bi b.CR:=by obtain⟨d,e,c,tt,G,w,hc,rfl⟩:=w;obtain⟨h',o',c',G',r,w',JO,x⟩:=aIZ (m:=n) w hc g.ok (g.rm.le (by have:=g.A5;omega)) hm;exact⟨h',_,r,⟨d,o',c',tt,G',w',JO,rfl⟩,x⟩
def aEt(w:RB h bi b F)(g:Gz b n o a):MV h F 98 [.ptr (some (bi,0))] (.tuple []) bi b.Cv:=by obtain⟨d,e,c,tt,G,w,hc,rfl⟩:=w;obtain⟨h',o',c',t',r,w',JO,x⟩:=aIX w hc g.rm;exact⟨h',_,r,⟨d,o',c',t',G,w',JO,rfl⟩,x⟩
def vX(h:Nm b.a)(g:Gz b n o a):Nm b.CR.a:=Nm.Jn h λe he=>(g.rm.DE e (Bw he)).1
def ž(w:RB h bi b F)(v:Bool):WrR h F bi 14 (.bool v) {b with fs:=v}:=by obtain⟨e,d,c,tt,G,w,hc,rfl⟩:=w;exact⟨w.st (k:=14) rfl rfl,⟨e,d,c,tt,G,w.put rfl rfl w.o w.t,hc,rfl⟩,Bg⟩
def RB.l8(w:RB h bi b F):A7 h none (.ptr (some (bi,8)))=some (.int .i64 b.MT)/\A7 h none (.ptr (some (bi,14)))=some (.bool b.fs):=by obtain⟨e,d,c,tt,G,w,hc,rfl⟩:=w;exact⟨w.ld 8,w.ld 14⟩
def RB.lo(w:RB h bi b F):∃v,A7 h none (.ptr (some (bi,2)))=some v/\BY b.AW v/\∀{u:Aa} {l:List Item},BY l u->∀t:Ah,WrR (h++t) F bi 2 u {b with AW:=l}/\DB h F (h++t) F:=by obtain⟨e,d,c,tt,G,w,hc,rfl⟩:=w;refine⟨d,w.ld 2,w.o,λ{u l} hu t=>?_⟩;have w1:=w.Ib (u:=t);exact⟨⟨w1.st (k:=2) (v0:=d) rfl (AV.cells hu),⟨e,u,c,tt,G,w1.HZ hu,hc,rfl⟩,Bg⟩,w.C0⟩
def RB.lc(w:RB h bi b F)(g:Gz b n o a):∃v u,A7 h none (.ptr (some (bi,3)))=some v/\BK cx 102 [v] h u h/\WrR h F bi 3 u {b with A5:=Ee b.A5}:=by obtain⟨e,d,c,tt,G,w,hc,rfl⟩:=w;have QB:=g.rm.A5;obtain⟨fs,Gw,Sk⟩:=hc;obtain⟨u,r2,hu⟩:=f84 (h:=h) Sk (by rw[<-Gw,Aj] at QB;omega);exact⟨c,u,w.l3,r2,w.st (k:=3) (v0:=c) rfl (AV.cells hu),⟨e,d,u,tt,G,w.Kh (u:=u) (l:=Ee b.A5),⟨_,by rw[QF,Gw],hu⟩,rfl⟩,Bg⟩
def mk1(nm:An):AB (.C8 1) [.str nm]=some (.sl 1 ([nm].map CC)):=D1 (ws:=[nm]) rfl AH
def aBw{L:List (List An)}{s:An}{X:List An}(hs:s∈X)(h:(X.all λw=>L.all λl=>decide (w∉l))=true):∀l∈L,s∉l:=λl hl=>GH (C9.1 (C9.1 h s hs) l hl)
def WJ:Wd aTY [aTY]:=Tm AU Di Di
def J9:Wd aTR [aTR]:=Tm AU Di Di
end
def lG:Wd aTZ Ti:=Tm AU Di Di
def Zc:Wd aT2 [aT2]:=Tm AU Di Di
def zy:Wd aUd ŵ:=Tm AU Di Di
def Ul:Wd aT5 [aT5]:=Tm AU Di Di
def P9:Wd aT0 [aT0]:=Tm AU Di Di
def qA:Wd aTQ MF:=Tm Di Di Di
def z_:Wd aUJ [aUb,aTT,[98,114]]:=Tm AU Di Di
section
variable{t:Gk}{av:Aa}{h:Ah}{l:An}{ws:List An}
def N7(hk:t.k=2)(w:Wd l ws)(hn:t.name∈ws)(ht:t.Sm)(av:Aa)(h:Ah):BK cx 132 [.agg (Dm t av),.str l] h tt h:=by have q:=aEr (t:=t) w ht.name av h;rwa [As (show t.st ws from⟨hk,hn⟩)] at q
def KP(w:Wd l ws)(hn:t.name∉ws)(ht:t.Sm)(av:Aa)(h:Ah):BK cx 132 [.agg (Dm t av),.str l] h ff h:=by have q:=aEr (t:=t) w ht.name av h;rwa [Aq (show¬t.st ws from λh=>hn h.2)] at q
def eo(hk:t.k=3)(w:Wd l ws)(hn:t.name∈ws)(ht:t.Sm)(av:Aa)(h:Ah):BK cx 133 [.agg (Dm t av),.str l] h tt h:=by have q:=aEs (t:=t) w ht.name av h;rwa [As (show t.en ws from⟨hk,hn⟩)] at q
def A_(w:Wd l ws)(hn:t.name∉ws)(ht:t.Sm)(av:Aa)(h:Ah):BK cx 133 [.agg (Dm t av),.str l] h ff h:=by have q:=aEs (t:=t) w ht.name av h;rwa [Aq (show¬t.en ws from λh=>hn h.2)] at q
def aJn(hk:¬t.k=2)(l:An)(av:Aa)(h:Ah):BK cx 132 [.agg (Dm t av),.str l] h ff h:=by rw[Ae,yT];simp only[abS,Dm,hk]
def et(hk:¬t.k=3)(l:An)(av:Aa)(h:Ah):BK cx 133 [.agg (Dm t av),.str l] h ff h:=by rw[Ae,yU];simp only[abS,Dm,hk]
def aBx(hk:¬t.H7)(av:Aa)(h:Ah):BK cx 127 [.agg (Dm t av)] h ff h:=by have q:=aEq t av h;rwa [Aq hk] at q
def aJo(hk:t.H7)(av:Aa)(h:Ah):BK cx 127 [.agg (Dm t av)] h tt h:=by have q:=aEq t av h;rwa [As hk] at q
def B_(hk:t.ok)(av:Aa)(h:Ah):BK cx 126 [.agg (Dm t av)] h ff h:=by have q:=aJm t av h;rwa [Aq (Kb.2 hk)] at q
def aBy(hk:¬t.ok)(av:Aa)(h:Ah):BK cx 126 [.agg (Dm t av)] h tt h:=by have q:=aJm t av h;rwa [As hk] at q
def lH(h:¬t.k=5):¬t.H7:=λhw=>h hw.1
end
section
variable{h h':Ah}{bi:Nat}{b b':BS}{F:Nat->Prop}{n o a:Nat}{t:Gk}{av:Aa}{nm:An}{ws:List An}
def C_(w:RB h bi b F)(ba:BA b)(rm:BZ b (n+4))(hm:Nm b.a)(ht:t.Sm)(hv:Bq t.Az av):MV h F 86 [.ptr (some (bi,0)),.agg (Dm t av)] (.int .i64 (b.a.len+1)) bi (b.KJ t):=by obtain⟨d,e,c,tt,G,w,hc,rfl⟩:=w;obtain⟨h',o',G',r,w',x⟩:=l_ (m:=n) w ba rm hm P7 hv ht.Az ht.name;exact⟨h',_,r,⟨d,o',c,tt,G',w',by unfold BS.KJ;rw[Ek];exact hc,rfl⟩,x⟩
def vY(w:RB h bi b F)(ba:BA b)(rm:BZ b (n+4))(hm:Nm b.a)(ht:t.Sm)(hv:Bq t.Az av)(s:Int):MV h F 91 [.ptr (some (bi,0)),.agg (Dm t av),.int .i64 s] (.tuple []) bi (b.Fs t.name t.Az s):=by obtain⟨d,f,c,tt,G,w,hc,rfl⟩:=w;obtain⟨h',o',G',r,w',x⟩:=aII (m:=n) w ba rm hm P7 hv ht.Az ht.name s;exact⟨h',_,r,⟨d,o',c,tt,G',w',by have e:(b.Fs t.name t.Az s).A5=b.A5:=(by unfold BS.Fs;simp only;rw[Ek]);rw[e];exact hc,rfl⟩,x⟩
def aEu(w:RB h bi b F)(rm:BZ b n):MV h F 136 [.ptr (some (bi,0))] (.tuple []) bi b.Lk:=by
 obtain⟨j,d,c,tt,G,w,hc,rfl⟩:=w;have ho:=rm.AW;have ld:A7 h none (.ptr (some (bi,2)))=some d:=w.ld 2;obtain⟨u,g,i,hu⟩:=ŏ (h:=h) w.o Ab;have e:b.Lk={b with AW:=JS b.AW ((b.AW.length:Int)-1)}:=by
  unfold BS.Lk JS;split
  .have h1:max 1 ((b.AW.length:Int)-1).toNat=1:=by omega
   rw[h1,AF Ab]
  .have h1:max 1 ((b.AW.length:Int)-1).toNat=b.AW.length-1:=by omega
   rw[h1]
 have w1:=w.Ib (u:=g);have f:=w1.HZ hu;refine⟨_,_,?_,⟨j,u,c,tt,G,by rw[e];exact f,by rw[e];exact hc,rfl⟩,w.C0.trans Bg⟩;rw[Ae,yV];simp only[abS,↓reduceIte,ld,i.Ac,w1.st (k:=2) (v0:=d) rfl (AV.cells hu)]
def ſ(w:RB h bi b F)(ba:BA b)(rm:BZ b (n+4))(hm:Nm b.a)(ht:t.Sm)(hv:Bq t.Az av):MV h F 135 [.ptr (some (bi,0)),.agg (Dm t av)] (.tuple []) bi (b.Y6 t):=by obtain⟨h1,g,f,w1,d⟩:=C_ w ba rm hm ht hv;obtain⟨h2,F2,r2,e,c⟩:=aEu w1 (JA rm ht.Az ht.name);refine⟨_,_,?_,e,d.trans c⟩;rw[Ae,Ą];simp only[abS,↓reduceIte,f.Ac,r2.Ac]
def RB.mark(w:RB h bi b F)(rm:BZ b n):∃v u,A7 h none (.ptr (some (bi,3)))=some v/\BK cx 137 [v,.agg [I 0,S [],.slnil]] h u h/\WrR h F bi 3 u {b with A5:=b.A5++[Cc.zero]}:=by
 obtain⟨g,f,c,tt,G,w,hc,rfl⟩:=w;obtain⟨fs,d,hf⟩:=hc;have ha:=rm.A5;have Hm:fs.length=b.A5.length:=by rw[<-d,Aj]
 have hp:KY Cc.zero fs=fs:=Ad (by simp[Cc.zero]);obtain⟨u,i,PH,r2,hu⟩:=aG4 (h:=h) (l:=fs) hf Ab (kG d λx hx=>((rm.DE x hx).2).1) (e:=⟨Cc.zero,.slnil,.inr ⟨rfl,rfl⟩⟩) (by unfold Zo;decide);rw[hp] at hu;exact⟨c,u,w.l3,r2,w.st (k:=3) (v0:=c) rfl (AV.cells hu),⟨g,f,u,tt,G,w.Kh (u:=u) (l:=b.A5++[Cc.zero]),⟨_,by rw[BE,d,Bk,C2,PH],hu⟩,rfl⟩,Bg⟩
def RB.mj(w:RB h bi b F)(rm:BZ b n)(m:Int):∃v u x,A7 h none (.ptr (some (bi,6)))=some v/\AB (.append 1 8) [.slnil,v]=some u/\AB (.append 1 8) [u,.sl 1 [BH m]]=some x/\WrR h F bi 6 x {b with tm:=b.tm++[m]}:=by obtain⟨g,d,c,tt,G,w,hc,rfl⟩:=w;have ye:=rm.tm;have aT:AS=140737488355328:=rfl;obtain⟨u,f,hu⟩:=AV.FJ (b:=8) w.t Ab;have e:=AV.Jv (b:=8) (a:=m) hu Ab;have IE:DV (b.tm++[m]) (.sl 1 ((b.tm++[m]).map BH)):= .mk;exact⟨tt,u,_,w.l6,f,e,w.st (k:=6) (v0:=tt) rfl (AV.cells IE),⟨g,d,c,_,G,w.YP IE,hc,rfl⟩,Bg⟩
def cM(hk:t.k=2):b.Fo t=
  (if t.name∈[aTT] then(b.Vh t,false) else if t.name∈Ti then(b.Y6 t,false) else if t.name∈[aT2] then(b.Fs t.name t.Az 2,false)
  else if t.name∈ŵ then(b.Fs t.name t.Az 3,false) else if t.name∈[aT5] then(b.Fs t.name t.Az 4,false) else if t.name∈[aT0] then({b.KJ t with mode:=5},false)
  else if t.name∈[AK] then({b.KJ t with A5:=(b.KJ t).A5++[Cc.zero],fs:=false,mode:=18,tm:=(b.KJ t).tm++[18]},false)
  else if t.name∈[aTY] then(b,false) else b.Lk.again 6):=by
 have st:∀ws,t.st ws↔t.name∈ws:=λws=>⟨λh=>h.2,λh=>⟨hk,h⟩⟩;have en:∀ws,¬t.en ws:=λws h=>by have:=h.1;omega
 have e:∀ws,¬t.nz ws:=λws h=>by have:=h.1;omega
 have j:¬¬t.ok:=by unfold Gk.ok;omega
 have f:¬t.H7:=lH Ab;have i:¬t.k=1:=Ab;have g:¬t.k=4:=Ab;unfold BS.Fo;rw[Ad j,Ad i];by_cases d:t.name∈[aTY];.have c:=aBw (L:=[[aTT],Ti,[aT2],ŵ,[aT5],[aT0],[AK]]) d Di;rw[Af ((st _).2 d),Ad (c _ AH),Ad (c _ AH),Ad (c _ AH),Ad (c _ AH),Ad (c _ AH),Ad (c _ AH),Ad (c _ AH),Af d]
 .rw[Ad (λh=>d ((st _).1 h)),Ad (e _),Ad f,Ad g,Ad d];simp only[st,en,DG]
def aBz(w:RB h bi b F)(ba:BA b)(rm:BZ b (n+6))(hm:Nm b.a)(ht:t.Sm)(hv:Bq t.Az av)(hs:t.st MF):MV h F 41 [.ptr (some (bi,0)),.agg (Dm t av)] (.bool (b.Fo t).2) bi (b.Fo t).1:=by
 have hk:=hs.1;have q:¬t.k=1:=Ab;have p:¬t.k=4:=Ab;have k5:¬t.k=5:=Ab;have k3:¬t.k=3:=Ab;have m:=B_ (t:=t) (by unfold Gk.ok;omega) av h;have j:=aBx (t:=t) (lH k5) av h;have A:=aBw (L:=[[aTT],[aT0],[aTY]]) hs.2 Di;have E:=A [aTT] AH;have i:=KP (t:=t) lF E ht av h;rw[cM hk,Ad E];by_cases v:t.name∈Ti;.rw[Af v];have f:=N7 hk lG v ht av h;obtain⟨h1,y,d,w1,c⟩:=ſ (n:=n+2) w ba rm hm ht hv;refine⟨_,_,?_,w1,c⟩;rw[Ae,Im];simp only[abS,↓reduceIte,m.Ac,j.Ac,i.Ac,f.Ac,q,p,d.Ac]
 rw[Ad v];have f:=KP lG v ht av h;by_cases u:t.name∈[aT2];.rw[Af u];have g:=N7 hk Zc u ht av h;obtain⟨h1,y,d,w1,c⟩:=vY (n:=n+2) w ba rm hm ht hv 2;refine⟨_,_,?_,w1,c⟩;rw[Ae,Im];simp only[abS,↓reduceIte,m.Ac,j.Ac,i.Ac,f.Ac,g.Ac,q,p,d.Ac]
 rw[Ad u];have g:=KP Zc u ht av h;by_cases s:t.name∈ŵ;.rw[Af s];have x:=N7 hk zy s ht av h;obtain⟨h1,y,d,w1,c⟩:=vY (n:=n+2) w ba rm hm ht hv 3;refine⟨_,_,?_,w1,c⟩;rw[Ae,Im];simp only[abS,↓reduceIte,m.Ac,j.Ac,i.Ac,f.Ac,g.Ac,x.Ac,q,p,d.Ac]
 rw[Ad s];have x:=KP zy s ht av h;by_cases r:t.name∈[aT5];.rw[Af r];have z:=N7 hk Ul r ht av h;obtain⟨h1,y,d,w1,c⟩:=vY (n:=n+2) w ba rm hm ht hv 4;refine⟨_,_,?_,w1,c⟩;rw[Ae,Im];simp only[abS,↓reduceIte,m.Ac,j.Ac,i.Ac,f.Ac,g.Ac,x.Ac,z.Ac,q,p,d.Ac]
 rw[Ad r];have z:=KP Ul r ht av h;have D:=A [aT0] AH;have W:=KP (t:=t) P9 D ht av h;have C:t.name∈[AK]:=by
  have key:∀w∈MF,w∈Ti\/w∈[aT2]\/w∈ŵ\/w∈[aT5]\/w∈[AK]:=AU;rcases key _ hs.2 with h|h|h|h|h
  .exact absurd h v
  .exact absurd h u
  .exact absurd h s
  .exact absurd h r
  .exact h
 rw[Ad D,Af C];have V:=et (t:=t) k3 aTY av h;have U:=N7 hk J9 C ht av h;obtain⟨h1,y,d,w1,c⟩:=C_ (n:=n+2) w ba rm hm ht hv;have B:BZ (b.KJ t) (n+2):=JA rm ht.Az ht.name;obtain⟨v2,u2,Z,r2,T,P,K⟩:=w1.mark B;obtain⟨S,O,J⟩:=ž P false;obtain⟨R,N,H⟩:=RM O 18;have X:BZ {b.KJ t with A5:=(b.KJ t).A5++[Cc.zero],fs:=false,mode:=18} (n+1):=(B.yH (e:=Cc.zero) AH (λe he=>by
  rcases Ax.1 he with he|he
  .exact .inl he
  .exact .inr (by simpa using he)) ⟨AU,AU,λa ha=>by cases ha⟩:BZ {b.KJ t with A5:=(b.KJ t).A5++[Cc.zero]} (n+1)).eq rfl rfl rfl rfl
 obtain⟨v5,u5,z5,Y,e5,e6,Q,M,G⟩:=N.mj X 18;have em:AB (.C8 1) [I 18]=some (.sl 1 [BH 18]):=rfl;refine⟨_,_,?_,M,(((c.trans K).trans J).trans H).trans G⟩;rw[Ae,Im];simp only[abS,Nat.reduceLeDiff,↓reduceIte,AT,m.Ac,j.Ac,i.Ac,f.Ac,g.Ac,x.Ac,z.Ac,W.Ac,V.Ac,U.Ac,q,p,d.Ac,Z,r2.Ac,T,S,R,Y,e5,em,e6,Q]
def aEv(w:RB h bi b F):MV h F 99 [.ptr (some (bi,0))] (.tuple []) bi {b with stop:=true}:=by obtain⟨e,d,c,tt,G,w,hc,rfl⟩:=w;obtain⟨h',r,w',x⟩:=aIH w;exact⟨h',_,r,⟨e,d,c,tt,G,w',hc,rfl⟩,x⟩
def aAa(w:RB h bi b F)(g:Gz b n o a):MV h F 96 [.ptr (some (bi,0))] (.tuple []) bi b.GG:=by obtain⟨e,d,c,tt,G,w,hc,rfl⟩:=w;obtain⟨h',r,w',x⟩:=zb w g.rm;exact⟨h',_,r,⟨e,d,c,tt,G,w',hc,rfl⟩,x⟩
end
end Go.Am
end
section
end
section
end
section
namespace Go.Am
open Go
section
variable{h h':Ah}{bi:Nat}{b b':BS}{F:Nat->Prop}{n o a:Nat}{t:Gk}{av:Aa}{nm:An}{ws:List An}
def mr(hk:t.k=3):b.Fo t=
  (if t.name∈[aTY] then({b.Lk with mode:=6},false) else if t.name∈[AK] then(b.Cv,false) else if t.name∈[aUb,aTT,[98,114]] then b.Lk.again 6 else(b,false)):=by
 have st:∀ws,¬t.st ws:=λws h=>by have:=h.1;omega
 have en:∀ws,t.en ws↔t.name∈ws:=λws=>⟨λh=>h.2,λh=>⟨hk,h⟩⟩;have f:t.nz cE↔¬(t.name∈[aTY]\/t.name∈[AK]\/t.name∈[aUb,aTT,[98,114]]):=by
  have e:t.name∈cE↔(t.name∈[aTY]\/t.name∈[AK]\/t.name∈[aUb,aTT,[98,114]]):=by simp only[cE,AK,AX,Nu,I_]
  rw[<-e];exact⟨λh=>h.2,λh=>⟨hk,h⟩⟩
 have m:¬¬t.ok:=by unfold Gk.ok;omega
 have i:¬t.H7:=lH Ab;have l:¬t.k=1:=Ab;have j:¬t.k=4:=Ab;unfold BS.Fo;rw[Ad m,Ad l,Ad (st _)];by_cases c:t.name∈[aTY];.rw[Ad (λh=>(f.1 h) (.inl c)),Af c];simp only[st,en,i,j,c,DG,BI]
 by_cases d:t.name∈[AK];.rw[Ad (λh=>(f.1 h) (.inr (.inl d))),Ad c,Af d];simp only[st,en,i,j,c,d,DG,BI]
 by_cases g:t.name∈[aUb,aTT,[98,114]];.rw[Ad (λh=>(f.1 h) (.inr (.inr g))),Ad c,Ad d,Af g];simp only[st,en,i,j,c,d,DG,BI]
 .rw[Af (f.2 (by simp only[c,d,g,aEz,Ay])),Ad c,Ad d,Ad g]
def aN6(w:RB h bi b F)(g:Gz b (n+1004) o a)(hm:Nm b.a)(ht:t.Sm)(hv:Bq t.Az av)(V:t.st [aTT]->MV h F 44 [.ptr (some (bi,0)),.agg (Dm t av)] ff bi (b.Vh t)):MV h F 41 [.ptr (some (bi,0)),.agg (Dm t av)] (.bool (b.Fo t).2) bi (b.Fo t).1:=by
 by_cases C:¬t.ok
 .have e:b.Fo t=(b,false):=by unfold BS.Fo;rw[Af C]
  rw[e];refine⟨_,_,?_,w,.refl⟩;rw[Ae,Im];simp only[abS,↓reduceIte,(aBy C av h).Ac]
 have j:=B_ (Kb.1 C) av h;by_cases f:t.k=1
 .have e:b.Fo t=(b,false):=by unfold BS.Fo;rw[Ad C,Af f]
  rw[e];refine⟨_,_,?_,w,.refl⟩;rw[Ae,Im];simp only[abS,↓reduceIte,j.Ac,AM f]
 by_cases G:t.H7
 .have e:b.Fo t=(b.Nn t.r,false):=by have W:=G.1;unfold BS.Fo;rw[Ad C,Ad f,Ad (show¬t.st _ from λh=>by have:=h.1;omega),Ad (show¬t.nz _ from λh=>by have:=h.1;omega),Af G]
  rw[e];obtain⟨h1,B,d,w1,c⟩:=zj w (g.dn (n':=n+5) Ab) hm t.r;refine⟨_,_,?_,w1,c⟩;rw[Ae,Im];simp only[abS,↓reduceIte,j.Ac,f,(aJo G av h).Ac,d.Ac]
 have p:=aBx G av h;by_cases m:t.k=4
 .have e:b.Fo t=(b.Fe t.data 0,false):=by unfold BS.Fo;rw[Ad C,Ad f,Ad (show¬t.st _ from λh=>by have:=h.1;omega),Ad (show¬t.nz _ from λh=>by have:=h.1;omega),Ad G,Af m]
  rw[e];obtain⟨h1,B,d,w1,c⟩:=cJ (s:=t.data) w (g.dn (n':=n+1) Ab) hm (by have:=ht.data;omega) 0;refine⟨_,_,?_,w1,c⟩;rw[Ae,Im];simp only[abS,↓reduceIte,j.Ac,f,p.Ac,AM m,d.Ac]
 by_cases A:t.k=2
 .by_cases P:t.name∈MF;.exact aBz (n:=n) w g.ok (g.rm.le Ab) hm ht hv ⟨A,P⟩
  rw[cM A];by_cases q:t.name∈[aTT];.rw[Af q];obtain⟨h1,B,d,w1,c⟩:=V ⟨A,q⟩;refine⟨_,_,?_,w1,c⟩;rw[Ae,Im];simp only[abS,↓reduceIte,j.Ac,f,p.Ac,m,(N7 A lF q ht av h).Ac,d.Ac]
  have hg:∀ws:List An,(∀w∈ws,w∈MF)->t.name∉ws:=λws hw hx=>P (hw _ hx);have D:=hg Ti AU;have T:=hg [aT2] AU;have S:=hg ŵ AU;have R:=hg [aT5] AU;have Q:=hg [AK] AU;have z:=KP lF q ht av h;have y:=KP lG D ht av h;have E:=KP Zc T ht av h;have L:=KP zy S ht av h;have K:=KP Ul R ht av h;rw[Ad q,Ad D,Ad T,Ad S,Ad R];by_cases I:t.name∈[aT0];.rw[Af I];obtain⟨h1,B,d,w1,c⟩:=aJe (n:=n) w (g.dn Ab) hm ht hv;obtain⟨x,v,u⟩:=RM w1 5;refine⟨_,_,?_,v,c.trans u⟩;rw[Ae,Im];simp only[abS,↓reduceIte,j.Ac,f,p.Ac,m,z.Ac,y.Ac,E.Ac,L.Ac,K.Ac,(N7 A P9 I ht av h).Ac,d.Ac,x]
  have O:=KP P9 I ht av h;have i:¬t.k=3:=Ab;have N:=et (t:=t) i aTY av h;have M:=KP J9 Q ht av h;have n_:=et (t:=t) i aTR av h;rw[Ad I,Ad Q];by_cases H:t.name∈[aTY];.rw[Af H];refine⟨_,_,?_,w,.refl⟩;rw[Ae,Im];simp only[abS,↓reduceIte,j.Ac,f,p.Ac,m,z.Ac,y.Ac,E.Ac,L.Ac,K.Ac,O.Ac,N.Ac,M.Ac,n_.Ac,(N7 A WJ H ht av h).Ac]
  rw[Ad H];obtain⟨h1,B,d,w1,c⟩:=dw w g;obtain⟨x,v,u⟩:=RM w1 6;refine⟨_,_,?_,v,c.trans u⟩;rw[Ae,Im];simp only[abS,↓reduceIte,j.Ac,f,p.Ac,m,z.Ac,y.Ac,E.Ac,L.Ac,K.Ac,O.Ac,N.Ac,M.Ac,n_.Ac,(KP WJ H ht av h).Ac,i,d.Ac,x,BS.again]
 have z:=λl=>aJn (t:=t) A l av h;by_cases i:t.k=3
 .rw[mr i];by_cases J:t.name∈[aTY];.rw[Af J];obtain⟨h1,B,d,w1,c⟩:=dw w g;obtain⟨x,v,u⟩:=RM w1 6;refine⟨_,_,?_,v,c.trans u⟩;rw[Ae,Im];simp only[abS,↓reduceIte,j.Ac,f,p.Ac,m,(z _).Ac,(eo i WJ J ht av h).Ac,d.Ac,x]
  rw[Ad J];have y:=A_ WJ J ht av h;by_cases q:t.name∈[AK];.rw[Af q];obtain⟨h1,B,d,w1,c⟩:=aEt w g;refine⟨_,_,?_,w1,c⟩;rw[Ae,Im];simp only[abS,↓reduceIte,j.Ac,f,p.Ac,m,(z _).Ac,y.Ac,(eo i J9 q ht av h).Ac,d.Ac]
  rw[Ad q];have E:=A_ J9 q ht av h;by_cases D:t.name∈[aUb,aTT,[98,114]];.rw[Af D];obtain⟨h1,B,d,w1,c⟩:=dw w g;obtain⟨x,v,u⟩:=RM w1 6;refine⟨_,_,?_,v,c.trans u⟩;rw[Ae,Im];simp only[abS,↓reduceIte,j.Ac,f,p.Ac,m,(z _).Ac,y.Ac,E.Ac,AM i,(eo i z_ D ht av h).Ac,d.Ac,x,BS.again]
  .rw[Ad D];refine⟨_,_,?_,w,.refl⟩;rw[Ae,Im];simp only[abS,↓reduceIte,j.Ac,f,p.Ac,m,(z _).Ac,y.Ac,E.Ac,AM i,(A_ z_ D ht av h).Ac]
 have e:b.Fo t=b.Lk.again 6:=by have st:∀ws,¬t.st ws:=λws h=>A h.1;have en:∀ws,¬t.en ws:=λws h=>i h.1;have U:∀ws,¬t.nz ws:=λws h=>i h.1;unfold BS.Fo;simp only[C,f,G,m,st,en,U,DG]
 rw[e];have y:=λl=>et (t:=t) i l av h;obtain⟨h1,B,d,w1,c⟩:=dw w g;obtain⟨x,v,u⟩:=RM w1 6;refine⟨_,_,?_,v,c.trans u⟩;rw[Ae,Im];simp only[abS,↓reduceIte,j.Ac,f,p.Ac,m,(z _).Ac,(y _).Ac,i,d.Ac,x,BS.again]
def aBA{c:BS}{v:Bool}(h:c.fs=v):({c with fs:=v}:BS)=c:=by rw[<-h]
def aJp(w:RB h bi b F)(g:Gz b (n+4*a+5) o a)(hm:Nm b.a)(hk:t.k=5):MV h F 44 [.ptr (some (bi,0)),.agg (Dm t av)] ff bi (b.Rd t):=by
 unfold BS.Rd;by_cases d:t.r=0;.rw[Af d];refine⟨_,_,?_,w,.refl⟩;rw[Ae,T2];simp only[abS,↓reduceIte,AM hk,B2,d]
 rw[Ad d];have u:Gz b (n+5+4*a) o a:=g.dn Ab;obtain⟨h1,v,s,w1,p⟩:=mq w u hm;obtain⟨h2,F2,r2,j,m⟩:=zj (n:=n) w1 u.CR (vX hm u) t.r;have l8:=j.l8.2;have q:=aEq t av h2;dsimp only;cases hf:(b.CR.Nn t.r).fs with
 |false=>
  rw[hf] at l8;obtain⟨i,c,f⟩:=ž j false;have e:(if t.H7 then b.CR.Nn t.r else({b.CR.Nn t.r with fs:=false}:BS))={b.CR.Nn t.r with fs:=false}:=by
   split;.exact(aBA hf).symm
   .rfl
  rw[e];refine⟨_,_,?_,c,(p.trans m).trans f⟩;rw[Ae,T2];simp only[abS,↓reduceIte,AM hk,B2,d,s.Ac,r2.Ac,l8,i]
 |true=>
  rw[hf] at l8;by_cases l:t.H7;.rw[As l] at q;rw[Af l];obtain⟨i,c,f⟩:=ž j true;rw[aBA hf] at c;refine⟨_,_,?_,c,(p.trans m).trans f⟩;rw[Ae,T2];simp only[abS,↓reduceIte,AM hk,B2,d,s.Ac,r2.Ac,l8,q.Ac,i]
  .rw[Aq l] at q;rw[Ad l];obtain⟨i,c,f⟩:=ž j false;refine⟨_,_,?_,c,(p.trans m).trans f⟩;rw[Ae,T2];simp only[abS,↓reduceIte,AM hk,B2,d,s.Ac,r2.Ac,l8,q.Ac,i]
def aJq(w:RB h bi b F)(g:Gz b (n+1) o a)(hm:Nm b.a)(ht:t.Sm)(hk:t.k=4):MV h F 44 [.ptr (some (bi,0)),.agg (Dm t av)] ff bi (b.Fe t.data 0):=by obtain⟨h1,e,d,w1,c⟩:=cJ (s:=t.data) w g hm (by have:=ht.data;omega) 0;refine⟨_,_,?_,w1,c⟩;rw[Ae,T2];simp only[abS,↓reduceIte,(Ab:¬t.k=5),AM hk,d.Ac]
def aJr(w:RB h bi b F)(g:¬t.k=2)(f:¬t.k=3)(e:¬t.k=4)(d:¬t.k=5)(c:¬t.k=6):MV h F 44 [.ptr (some (bi,0)),.agg (Dm t av)] ff bi b:=by refine⟨_,_,?_,w,.refl⟩;rw[Ae,T2];simp only[abS,↓reduceIte,g,f,e,d,c]
def qB(w:RB h bi b F)(g:Gz b n o a):MV h F 143 [.ptr (some (bi,0))] (.tuple []) bi b.pY:=by
 obtain⟨l,i,c,tt,G,w,hc,rfl⟩:=w;have ye:=g.rm.tm;have aT:AS=140737488355328:=rfl;have hw:AV 1 (b.tm.map BH) tt:=w.t;have le:=AV.CN hw;by_cases d:b.tm=[]
 .have e:b.pY=b:=by
   have h0:b.tm.dropLast=b.tm:=by rw[d];rfl
   unfold BS.pY;rw[h0]
  rw[e];refine⟨_,_,?_,⟨l,i,c,tt,G,w,hc,rfl⟩,.refl⟩;rw[Ae,yW];simp only[BF,↓reduceIte,lN,w.l6,le,show¬(0:Int)<(b.tm.length:Int) by rw[d];decide]
 .have hp:0<b.tm.length:=Dy.2 d;obtain⟨q,j,yh⟩:=AV.Lw (k:= .i64) hw (n:=b.tm.length-1) Ab;rw[(Ab:((b.tm.length-1:Nat):Int)=(b.tm.length:Int)-1)] at j;have p:b.tm.take (b.tm.length-1)=b.tm.dropLast:=(JX ..).symm;rw[p] at yh;obtain⟨f,m,R_⟩:=AV.FJ (b:=8) yh (by rw[Zg];omega);have hu:DV b.tm.dropLast f:=R_;refine⟨_,_,?_,⟨l,i,c,f,G,w.YP hu,hc,rfl⟩,Bg⟩;rw[Ae,yW];simp only[abS,↓reduceIte,w.l6,le,(Ab:(0:Int)<(b.tm.length:Int)),C3 (Ab: -9223372036854775808<=(b.tm.length:Int)-1) (Ab:(b.tm.length:Int)-1<9223372036854775808),j,m,w.st (k:=6) (v0:=tt) rfl (AV.cells hu)]
def RB.D2(w:RB h bi b F)(g:Gz b (n+1) o a)(m:Int):∃h1 c v u x,BK cx 143 [.ptr (some (bi,0))] h (.tuple []) h1/\A7 h1 none (.ptr (some (bi,6)))=some v/\AB (.append 1 8) [.slnil,v]=some u/\AB (.append 1 8) [u,.sl 1 [BH m]]=some x/\
  Co h1 1 (.ptr (some (bi,6))) x=some (put h1 bi 6 x)/\Co (put h1 bi 6 x) 1 (.ptr (some (bi,4))) (.int .i64 m)=some (put (put h1 bi 6 x) bi 4 (.int .i64 m))/\RB (put (put h1 bi 6 x) bi 4 (.int .i64 m)) bi (b.D2 m).1 c/\DB h F (put (put h1 bi 6 x) bi 4 (.int .i64 m)) c:=by
 obtain⟨h1,c,q,w1,f⟩:=qB w g;have g1:Gz b.pY (n+1) o a:=g.sub (AP _) (AP _) (by rw[Zg];omega);obtain⟨v2,k,z2,r,y,s,p,j,e⟩:=w1.mj g1.rm m;obtain⟨l,i,d⟩:=RM j m;exact⟨h1,c,v2,k,z2,q,r,y,s,p,l,i,(f.trans e).trans d⟩
def aBB:Wd aTW sT1:=Tm AU Di Di
def D_:Wd aUF [aUF]:=Tm AU Di Di
def aBC:Wd [116,114] [[116,114]]:=Tm AU Di Di
def aBD:Wd aUM sTd:=Tm AU Di Di
def aN7(w:RB h bi b F)(g:Gz b (n+4*a+1005) o a)(hm:Nm b.a)(ht:t.Sm)(hv:Bq t.Az av):MV h F 46 [.ptr (some (bi,0)),.agg (Dm t av)] (.bool (b.EY t).2) bi (b.EY t).1:=by
 have hl:t.name.length<9223372036854775807:=by have:=ht.name;omega
 unfold BS.EY;by_cases L:¬t.ok;.rw[Af L];refine⟨_,_,?_,w,.refl⟩;rw[Ae,Kt];simp only[abS,↓reduceIte,(aBy L av h).Ac]
 have f:=B_ (Kb.1 L) av h;rw[Ad L];by_cases d:t.k=5;.rw[Af d];obtain⟨h1,E,c,w1,z⟩:=aJp (n:=n) (av:=av) w (g.dn Ab) hm d;refine⟨_,_,?_,w1,z⟩;rw[Ae,Kt];simp only[abS,↓reduceIte,f.Ac,AM d,c.Ac]
 rw[Ad d];by_cases e:t.k=4;.rw[Af e];obtain⟨h1,E,c,w1,z⟩:=aJq (n:=n) (av:=av) w (g.dn Ab) hm ht e;refine⟨_,_,?_,w1,z⟩;rw[Ae,Kt];simp only[abS,↓reduceIte,f.Ac,d,AM e,c.Ac]
 rw[Ad e];by_cases i:t.k=1;.rw[Af i];obtain⟨h1,E,c,w1,z⟩:=aJr (t:=t) (av:=av) w Ab Ab Ab Ab Ab;refine⟨_,_,?_,w1,z⟩;rw[Ae,Kt];simp only[abS,↓reduceIte,f.Ac,d,e,AM i,c.Ac]
 rw[Ad i];by_cases K:t.st MF;.rw[Af K];obtain⟨h1,E,c,w1,z⟩:=aBz (n:=n) w g.ok (g.rm.le Ab) hm ht hv K;refine⟨_,_,?_,w1,z⟩;rw[Ae,Kt];simp only[abS,↓reduceIte,f.Ac,d,e,i,(N7 K.1 qA K.2 ht av h).Ac,c.Ac]
 rw[Ad K];have B:BK cx 132 [.agg (Dm t av),.str aTQ] h ff h:=by have q:=aEr (t:=t) qA ht.name av h;rwa [Aq K] at q
 by_cases J:t.en [AK];.rw[Af J];have l:=J.1;obtain⟨h1,E,c,w1,z⟩:=aN6 (n:=n) w (g.dn Ab) hm ht hv (λhs=>absurd hs.1 Ab);refine⟨_,_,?_,w1,z⟩;rw[Ae,Kt];simp only[abS,↓reduceIte,f.Ac,d,e,i,B.Ac,(eo J.1 J9 J.2 ht av h).Ac,c.Ac]
 rw[Ad J];have G:BK cx 133 [.agg (Dm t av),.str aTR] h ff h:=by have q:=aEs (t:=t) J9 ht.name av h;rwa [Aq (show¬t.en [aTR] from J)] at q
 by_cases s:t.k=2
 .have l:¬t.k=3:=by omega
  have H:¬t.k=6:=Ab;have gf:Gz b (n+1) o a:=g.dn Ab;by_cases y:t.name∈sT1;.rw[Af ⟨s,y⟩];obtain⟨h1,E,v,u,x,c,j,D,C,A,r,p,m⟩:=w.D2 gf 9;have em:AB (.C8 1) [I 9]=some (.sl 1 [BH 9]):=rfl;refine⟨_,_,?_,p,m⟩;rw[Ae,Kt];simp only[abS,↓reduceIte,f.Ac,d,e,i,B.Ac,G.Ac,l,H,(N7 s aBB y ht av h).Ac,c.Ac,j,D,em,C,A,r,BS.D2,BS.again]
  rw[Ad (show¬t.st sT1 from λh=>y h.2)];have N:=KP aBB y ht av h;by_cases R:t.name∈[aUF];.rw[Af ⟨s,R⟩];obtain⟨h1,E,v,u,x,c,j,D,C,A,r,p,m⟩:=w.D2 gf 12;have em:AB (.C8 1) [I 12]=some (.sl 1 [BH 12]):=rfl;refine⟨_,_,?_,p,m⟩;rw[Ae,Kt];simp only[abS,↓reduceIte,f.Ac,d,e,i,B.Ac,G.Ac,l,H,N.Ac,(N7 s D_ R ht av h).Ac,c.Ac,j,D,em,C,A,r,BS.D2,BS.again]
  rw[Ad (show¬t.st [aUF] from λh=>R h.2)];have V:=KP D_ R ht av h;by_cases Q:t.name∈[[116,114]];.rw[Af ⟨s,Q⟩];obtain⟨h1,E,v,u,x,c,j,D,C,A,r,p,m⟩:=w.D2 gf 13;have em:AB (.C8 1) [I 13]=some (.sl 1 [BH 13]):=rfl;refine⟨_,_,?_,p,m⟩;rw[Ae,Kt];simp only[abS,↓reduceIte,f.Ac,d,e,i,B.Ac,G.Ac,l,H,N.Ac,V.Ac,(N7 s aBC Q ht av h).Ac,c.Ac,j,D,em,C,A,r,BS.D2,BS.again]
  rw[Ad (show¬t.st [[116,114]] from λh=>Q h.2)];have W:=KP aBC Q ht av h;by_cases P:t.name∈sTd;.rw[Af ⟨s,P⟩];obtain⟨h1,E,v,u,x,c,j,D,C,A,r,p,m⟩:=w.D2 gf 14;have em:AB (.C8 1) [I 14]=some (.sl 1 [BH 14]):=rfl;refine⟨_,_,?_,p,m⟩;rw[Ae,Kt];simp only[abS,↓reduceIte,f.Ac,d,e,i,B.Ac,G.Ac,l,H,N.Ac,V.Ac,W.Ac,(N7 s aBD P ht av h).Ac,c.Ac,j,D,em,C,A,r,BS.D2,BS.again]
  rw[Ad (show¬t.st sTd from λh=>P h.2),Af s];have q6:=KP aBD P ht av h;obtain⟨h1,E,v,u,x,c,j,D,C,A,r,p,m⟩:=w.D2 gf 7;have em:AB (.C8 1) [I 7]=some (.sl 1 [BH 7]):=rfl;refine⟨_,_,?_,p,m⟩;rw[Ae,Kt];simp only[abS,↓reduceIte,f.Ac,d,e,i,B.Ac,G.Ac,l,H,N.Ac,V.Ac,W.Ac,q6.Ac,c.Ac,j,D,em,C,A,r,BS.D2,BS.again]
 have st:∀ws,¬t.st ws:=λws h=>s h.1;rw[Ad (st _),Ad (st _),Ad (st _),Ad (st _),Ad s];by_cases l:t.k=3;.rw[Af l];refine⟨_,_,?_,w,.refl⟩;rw[Ae,Kt];simp only[abS,↓reduceIte,f.Ac,d,e,i,B.Ac,G.Ac,AM l]
 rw[Ad l];have H:t.k=6:=by have:=Kb.1 L;unfold Gk.ok at this;omega
 obtain⟨v,j,M,wr⟩:=w.lo;have ho:=g.rm.AW;have c:=ō (h:=h) M Ab AK;unfold BS.RL;by_cases O:b.eW
 .rw[Af O];have y:¬AR (Bs [AK]) b.AW<0:=by unfold BS.eW at O;omega
  obtain⟨u,x,r2,hu⟩:=f85 (h:=h) M Ab (CX (ws:=[AK])) AU;rw[<-Mv] at hu;obtain⟨⟨r,p,m⟩,x2⟩:=wr hu x;have g3:Gz {b with AW:=DA Cx (Bs [AK]) b.AW} (n+4*a+1005) o a:=g.SR DO;obtain⟨v4,u4,l4,r4,s4,w4,Z⟩:=p.lc g3;have X:Gz {b with AW:=DA Cx (Bs [AK]) b.AW,A5:=Ee b.A5} (n+4*a+1005) o a:=g3.sub (AP _) (CM _ _) (Ag _);obtain⟨h5,F5,r5,w5,Y⟩:=qB w4 X;have g5:Gz ({b with AW:=DA Cx (Bs [AK]) b.AW,A5:=Ee b.A5}:BS).pY (n+4*a+1005) o a:=X.sub (AP _) (AP _) (by rw[Zg];omega);obtain⟨h6,F6,U,T,S⟩:=aAa w5 g5;refine⟨_,_,?_,T,(((x2.trans m).trans Z).trans Y).trans S⟩;rw[Ae,Kt];simp only[AK] at c r2 y;simp only[abS,↓reduceIte,f.Ac,d,e,i,B.Ac,G.Ac,l,AM H,j,c.Ac,y,mk1,r2.Ac,r,l4,r4.Ac,s4,r5.Ac,U.Ac]
 .rw[Ad O];have y:AR (Bs [AK]) b.AW<0:=by unfold BS.eW at O;omega
  obtain⟨h6,F6,U,T,S⟩:=aEv w;refine⟨_,_,?_,T,S⟩;rw[Ae,Kt];simp only[AK] at c y;simp only[abS,↓reduceIte,f.Ac,d,e,i,B.Ac,G.Ac,l,AM H,j,c.Ac,AM y,U.Ac]
end
end Go.Am
end
