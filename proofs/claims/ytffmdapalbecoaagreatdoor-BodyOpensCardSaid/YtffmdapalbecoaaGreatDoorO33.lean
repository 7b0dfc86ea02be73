/- Lemmas -/
import Derived.Test.YtffmdapalbecoaaGreatDoorO31
set_option linter.all false
set_option maxRecDepth 100000
open Bool renaming false→zz,true→zo,not_eq_true→zb
open Go.Am.Aa renaming tuple→zy,ptr→zu,agg→zq,int→zl,bool→zi,str→zf
open Option renaming some→zw,none→zc
open List renaming length→zr,any_reverse→za,mem_reverse→z0
open Go.IntKind renaming i64→zn
open Go.Am.B5 renaming zero→zm
open Or renaming inr→zg,inl→z1
open Go.Am.BS renaming Ik→zd
section
namespace Go.Am
open Go
section
variable{t:Fq}{av:Aa}{h:Ah}
def aL5(r:Int):JN cx 275 [zl .u8 r] (zi (decide (aR r))):=by
 rw[LY,aAW];by_cases h1:r=9;.subst h1;simp[aR]
 by_cases h2:r=10;.subst h2;simp[aR]
 by_cases e:r=12;.subst e;simp[aR]
 by_cases d:r=13;.subst d;simp[aR]
 by_cases c:r=32;.subst c;simp[aR]
 have:¬aR r:=by rw[aR];omega
 simp[h1,h2,e,d,c,this]
def aRi(t:Fq)(av:Aa)(h:Ah):BK cx 126 [zq (Co t av)] h (zi (decide t.Lg)) h:=by
 rw[Ad,aAk];by_cases d:t.k=5
 .by_cases h0:0<=t.r
  .by_cases h1:t.r<128
   .have e:IntKind.u8.wrap t.r=t.r:=by rw[IntKind.wrap_u8];omega
    have c:decide t.Lg=decide (aR t.r):=Ds.2 (by rw[Fq.Lg];exact⟨λh=>h.2,λh=>⟨d,h⟩⟩);simp[abS,Co,AE d,h0,h1,Rm,e,(aL5 t.r).BM rfl rfl,c]
   .have c:decide t.Lg=zz:=Al λh=>by unfold Fq.Lg aR at h;omega
    simp[abS,Co,AE d,h0,h1,c]
  .have c:decide t.Lg=zz:=Al λh=>by unfold Fq.Lg aR at h;omega
   simp[abS,Co,AE d,h0,c]
 .have c:decide t.Lg=zz:=Al λh=>d h.1;simp[abS,Co,d,c]
def aRj(t:Fq)(av:Aa)(h:Ah):BK cx 125 [zq (Co t av)] h (zi (decide ¬t.ok)) h:=by
 rw[Ad,aAj];by_cases h1:t.k<1;.have e:decide (¬t.ok)=zo:=As (by rw[Fq.ok];omega);simp[BD,Co,h1,e,DO]
 .by_cases h2:6<t.k;.have e:decide (¬t.ok)=zo:=As (by rw[Fq.ok];omega);simp[BD,Co,h1,h2,e,DO,DX]
  .have e:decide (¬t.ok)=zz:=Al λh=>h (by rw[Fq.ok];omega);simp[BD,Co,h1,h2,e,DX]
structure Wd(l:Ai)(ws:List Ai):Prop where
 len:zr l<9223372036854775806
 w:∀s,GA l s=decide (s∈ws)
def Il{l:Ai}{ws:List Ai}(h0:(decide (zr l<9223372036854775806))=zo)(h1:DD [] l=ws)(h2:ws.all (λw=> !w.isEmpty&& !w.contains 32)=zo):Wd l ws:=⟨DP h0,λs=>El h1 h2⟩
def aL6{l:Ai}{ws:List Ai}(w:Wd l ws)(ht:zr t.name<=1000)(av:Aa)(h:Ah):BK cx 131 [zq (Co t av),zf l] h (zi (decide (t.st ws))) h:=by
 rw[Ad,aAm];by_cases c:t.k=2
 .have e:decide (t.st ws)=decide (t.name∈ws):=by unfold Fq.st;simp[c]
  simp[abS,Co,AE c,GY w.len (Ab:zr t.name<9223372036854775807),w.w,e]
 .have e:decide (t.st ws)=zz:=by unfold Fq.st;simp[c]
  simp[abS,Co,c,e]
end
section
variable{h h':Ah}{bi:Nat}{b b':BS}{F:Nat->Prop}{n o a:Nat}{t:Fq}{av:Aa}
def pJ:Wd aXv [aXv]:=Il Bf Bx Bx
end
section
variable{h h':Ah}{bi:Nat}{b b':BS}{F:Nat->Prop}{n o a:Nat}{t:Fq}{av:Aa}{nm:Ai}{ws:List Ai}
def uZ(w:RB h bi b F)(g:Gz b (n+8*(4*(o+8)+10)) o a)(hm:Nm b.a)(nm:Ai):Ez h F 94 [zu (zw (bi,0)),zf nm] (zy []) bi (b.CI nm):=by obtain⟨d,e,c,tt,G,w,hc,rfl⟩:=w;let⟨h',o',c',G',r,w',Jq,x⟩:=aLI (m:=n) w hc g.ok (g.rm.le (by have:=g.AI;omega)) hm nm;exact⟨h',_,r,⟨d,o',c',tt,G',w',Jq,rfl⟩,x⟩
def Eu(w:RB h bi b F)(g:Gz b (n+4*a) o a)(hm:Nm b.a):Ez h F 92 [zu (zw (bi,0))] (zy []) bi b.A6:=by obtain⟨d,e,c,tt,G,w,hc,rfl⟩:=w;let⟨h',o',c',G',r,w',Jq,x⟩:=aLK (m:=n) w hc g.ok (g.rm.le (by have:=g.AW;omega)) hm;exact⟨h',_,r,⟨d,o',c',tt,G',w',Jq,rfl⟩,x⟩
def DW(h:Nm b.a)(g:Gz b n o a):Nm b.A6.a:=Nm.Ih h λe he=>(g.rm.DL e (BO he)).1
def P1(w:RB h bi b F)(v:Bool):Ė h F bi 14 (zi v) {b with fs:=v}:=by obtain⟨e,d,c,tt,G,w,hc,rfl⟩:=w;exact⟨w.st (k:=14) rfl rfl,⟨e,d,c,tt,G,w.put rfl rfl w.o w.t,hc,rfl⟩,Bd⟩
def aHf(w:RB h bi b F)(v:Int):Ė h F bi 8 (zl zn v) {b with KP:=v}:=by obtain⟨e,d,c,tt,G,w,hc,rfl⟩:=w;exact⟨w.st (k:=8) rfl rfl,⟨e,d,c,tt,G,w.put rfl rfl w.o w.t,hc,rfl⟩,Bd⟩
def RB.l8(w:RB h bi b F):A5 h zc (zu (zw (bi,8)))=zw (zl zn b.KP)/\A5 h zc (zu (zw (bi,14)))=zw (zi b.fs):=by obtain⟨e,d,c,tt,G,w,hc,rfl⟩:=w;exact⟨w.ld 8,w.ld 14⟩
def RB.lo(w:RB h bi b F):∃v,A5 h zc (zu (zw (bi,2)))=zw v/\BZ b.AI v/\∀{u:Aa} {l:List Item},BZ l u->∀t:Ah,Ė (h++t) F bi 2 u {b with AI:=l}/\Du h F (h++t) F:=by obtain⟨e,d,c,tt,G,w,hc,rfl⟩:=w;refine⟨d,w.ld 2,w.o,λ{u l} hu t=>?_⟩;have w1:=w.HY (u:=t);exact⟨⟨w1.st (k:=2) (v0:=d) rfl (AX.cells hu),⟨e,u,c,tt,G,w1.H5 hu,hc,rfl⟩,Bd⟩,w.C3⟩
def Gz.nmB(g:Gz b n o a):∀i∈b.AI,zr i.name<9223372036854775807:=λi hi=>by have:=g.rm.Xe i hi;omega
def mk1(nm:Ai):AA (.Dk 1) [zf nm]=zw (.sl 1 ([nm].map Cr)):=D2 (ws:=[nm]) rfl AH
section
variable(w:RB h bi b F)(g:Gz b n o a)
def aCy(s:Int)(nm:Ai):BK cx 289 [zu (zw (bi,0)),zl zn s,zf nm] h (zi (b.Q3 s (AU [nm]))) h:=by let⟨v,d,hv,_⟩:=w.lo;have ho:=g.rm.AI;have c:=aJF (h:=h) hv Ab g.nmB s (Cw (ws:=[nm])) AH;simp only[show b.Q3 s (AU [nm])=HZ (AU [nm]) (HG s) b.AI.reverse from rfl,Ad,aA6,BD,d,mk1,c]
def aCz:BK cx 285 [zu (zw (bi,0))] h (zi (decide b.Rs)) h:=by let⟨v,d,hv,_⟩:=w.lo;have ho:=g.rm.AI;have c:=aBI (h:=h) hv Ab AO;rw[show decide b.Rs=decide (0<=AZ (AU [AO]) b.AI) from rfl];rw[AO] at c⊢;simp[Ad,aA2,BD,d,c]
def VL(ex:Ai):Ez h F 293 [zu (zw (bi,0)),zf ex] (zy []) bi {b with AI:=DI (Di ex) Cx b.AI}:=by
 let⟨v,i,hv,wr⟩:=w.lo;have ho:=g.rm.AI;let⟨u,t,f,hu⟩:=f165 (h:=h) hv Ab g.nmB ex zz;have Ia:EX ex zz=Di ex:=by funext a;rfl
 rw[Ia] at hu;let⟨⟨e,w1,c⟩,d⟩:=wr hu t;refine⟨_,_,?_,w1,d.trans c⟩;simp[Ad,aA9,BD,i,f,e]
def aCA(nm:Ai):Ez h F 383 [zu (zw (bi,0)),zf nm] (zy []) bi {b with AI:=DI Cx (AU [nm]) b.AI}:=by let⟨v,i,hv,wr⟩:=w.lo;have ho:=g.rm.AI;let⟨u,t,f,hu⟩:=f85 (h:=h) hv Ab (Cw (ws:=[nm])) AH;rw[<-M3] at hu;let⟨⟨e,w1,c⟩,d⟩:=wr hu t;refine⟨_,_,?_,w1,d.trans c⟩;simp only[Ad,aBv,BD,i,mk1,f,e]
def u9(nm ex:Ai):Ez h F 290 [zu (zw (bi,0)),zf nm,zf ex] (zy []) bi (b.GR nm ex):=by let⟨h1,i,f,w1,d⟩:=VL w g ex;let⟨h2,F2,r2,e,c⟩:=aCA w1 (g.K5 C9) nm;refine⟨_,_,?_,e,d.trans c⟩;simp[Ad,aA7,BD,f,r2]
end
def bA(w:RB h bi b F)(g:Gz b (n+4) o a)(hm:Nm b.a)(ht:t.Sm)(hv:AL t.Aj av):Ez h F 134 [zu (zw (bi,0)),zq (Co t av)] (zy []) bi (b.Iw t):=by let⟨h1,i,c,w1,e⟩:=H9 w g hm ht hv;have g1:Gz (b.Ey t) n (o+1) a:=g.L9 ht.Aj ht.name;let⟨h2,F2,r2,f,d⟩:=uU w1 g1;refine⟨_,_,?_,f,e.trans d⟩;simp[Co] at c;simp[Ad,jl,BD,Co,c,r2]
end
def Tb:List Ai:=[aYB,[97,114,116,105,99,108,101],[97,115,105,100,101],aYQ,[99,101,110,116,101,114],[100,101,116,97,105,108,115],[100,105,97,108,111,103],[100,105,114],aYX,[100,108],aYW,aYR,[102,105,103,117,114,101],[102,111,111,116,101,114],[104,101,97,100,101,114],[104,103,114,111,117,112],[109,97,105,110],[109,101,110,117],[110,97,118],[111,108],[115,101,97,114,99,104],[115,101,99,116,105,111,110],[115,117,109,109,97,114,121],[117,108]]
def Ĥ:Wd aXq Tb:=Il Bx Bx Bx
def nl:Wd aXX [aXX]:=Il Bf Bx Bx
def aL7:Wd [112] [[112]]:=Il Bf Bx Bx
def ĥ:Wd [108,105] [[108,105]]:=Il Bf Bx Bx
def Ħ:Wd aYD pX:=Il Bf Bx Bx
def np:Wd aXL CZ:=Il Bf Bx Bx
def ħ:Wd aXz RQ:=Il Bf Bx Bx
def b_:Wd aXK Ny:=Il Bf Bx Bx
section
variable{h h':Ah}{bi:Nat}{b b':BS}{F:Nat->Prop}{n o a:Nat}{t:Fq}{av:Aa}{nm:Ai}{ws:List Ai}
def Ga{L:List (List Ai)}{s:Ai}{X:List Ai}(hs:s∈X)(h:(X.all λw=>L.all λl=>decide (w∉l))=zo):∀l∈L,s∉l:=λl hl=>DP (Ei.1 (Ei.1 h s hs) l hl)
def vA:Wd aXs [aXs]:=Il Bf Bx Bx
end
def nr:Wd aXM WD:=Il Bf Bx Bx
def vB:Wd aXT [aXT]:=Il Bf Bx Bx
def aEc:Wd aX7 sNS:=Il Bf Bx Bx
def gB:Wd aXZ [aXZ]:=Il Bf Bx Bx
def vC:Wd aXS [aXS]:=Il Bf Bx Bx
def UD:Wd aXr Ng:=Il Bx Bx Bx
def nu:Wd aXD [aXD]:=Il Bf Bx Bx
def WK:Wd aXy [aXy]:=Il Bf Bx Bx
section
variable{t:Fq}{av:Aa}{h:Ah}{l:Ai}{ws:List Ai}
def Fv(hk:t.k=2)(w:Wd l ws)(hn:t.name∈ws)(ht:t.Sm)(av:Aa)(h:Ah):BK cx 131 [zq (Co t av),zf l] h tt h:=by have q:=aL6 (t:=t) w ht.name av h;rwa [As (show t.st ws from⟨hk,hn⟩)] at q
def UE(w:Wd l ws)(hn:t.name∉ws)(ht:t.Sm)(av:Aa)(h:Ah):BK cx 131 [zq (Co t av),zf l] h ff h:=by have q:=aL6 (t:=t) w ht.name av h;rwa [Al (show¬t.st ws from λh=>hn h.2)] at q
def aL8(hk:¬t.k=3)(l:Ai)(av:Aa)(h:Ah):BK cx 132 [zq (Co t av),zf l] h ff h:=by simp[Ad,aAn,abS,Co,hk]
def aL9(hk:¬t.Lg)(av:Aa)(h:Ah):BK cx 126 [zq (Co t av)] h ff h:=by have q:=aRi t av h;rwa [Al hk] at q
def aMa(hk:t.ok)(av:Aa)(h:Ah):BK cx 125 [zq (Co t av)] h ff h:=by have q:=aRj t av h;rwa [Al (Sw.2 hk)] at q
def nv(h:¬t.k=5):¬t.Lg:=λhw=>h hw.1
end
section
variable{h h':Ah}{bi:Nat}{b b':BS}{F:Nat->Prop}{n o a:Nat}{t:Fq}{av:Aa}{nm:Ai}{ws:List Ai}
def Ĩ(w:RB h bi b F)(ba:BA b)(rm:B0 b (n+4))(hm:Nm b.a)(ht:t.Sm)(hv:AL t.Aj av):Ez h F 85 [zu (zw (bi,0)),zq (Co t av)] (zl zn (b.a.len+1)) bi (b.Ey t):=by obtain⟨d,e,c,tt,G,w,hc,rfl⟩:=w;let⟨h',o',G',r,w',x⟩:=um (m:=n) w ba rm hm Jh hv ht.Aj ht.name;exact⟨h',_,r,⟨d,o',c,tt,G',w',by rw[BS.Ey];rwa[Er],rfl⟩,x⟩
def pK(w:RB h bi b F)(ba:BA b)(rm:B0 b (n+4))(hm:Nm b.a)(ht:t.Sm)(hv:AL t.Aj av)(s:Int):Ez h F 90 [zu (zw (bi,0)),zq (Co t av),zl zn s] (zy []) bi (b.DE t.name t.Aj s):=by obtain⟨d,f,c,tt,G,w,hc,rfl⟩:=w;let⟨h',o',G',r,w',x⟩:=aLv (m:=n) w ba rm hm Jh hv ht.Aj ht.name s;exact⟨h',_,r,⟨d,o',c,tt,G',w',by have e:(b.DE t.name t.Aj s).AW=b.AW:=(by rw[BS.DE];simp only;rw[Er]);rwa[e],rfl⟩,x⟩
def aHg(w:RB h bi b F)(rm:B0 b n):Ez h F 135 [zu (zw (bi,0))] (zy []) bi b.IW:=by
 obtain⟨j,d,c,tt,G,w,hc,rfl⟩:=w;have ho:=rm.AI;have ld:A5 h zc (zu (zw (bi,2)))=zw d:=w.ld 2;let⟨u,g,i,hu⟩:=aBL (h:=h) w.o Ab;have e:b.IW={b with AI:=Kd b.AI ((zr b.AI:Int)-1)}:=by
  unfold BS.IW Kd;split
  .have h1:max 1 ((zr b.AI:Int)-1).toNat=1:=by omega
   rw[h1,AF Ab]
  .have h1:max 1 ((zr b.AI:Int)-1).toNat=zr b.AI-1:=by omega
   rw[h1]
 have w1:=w.HY (u:=g);have f:=w1.H5 hu;refine⟨_,_,?_,⟨j,u,c,tt,G,by rwa[e],by rwa[e],rfl⟩,w.C3.trans Bd⟩;simp[Ad,jm,BD,ld,i,w1.st (k:=2) (v0:=d) rfl (AX.cells hu)]
section
variable(w:RB h bi b F)
def aCB(ba:BA b)(rm:B0 b (n+4))(hm:Nm b.a)(ht:t.Sm)(hv:AL t.Aj av):Ez h F 134 [zu (zw (bi,0)),zq (Co t av)] (zy []) bi (b.Iw t):=by let⟨h1,g,f,w1,d⟩:=Ĩ w ba rm hm ht hv;let⟨h2,F2,r2,e,c⟩:=aHg w1 (JY rm ht.Aj ht.name);refine⟨_,_,?_,e,d.trans c⟩;simp[Ad,jl,BD,f,r2]
end
def RB.mark(w:RB h bi b F)(rm:B0 b n):∃v u,A5 h zc (zu (zw (bi,3)))=zw v/\BK cx 136 [v,zq [I 0,S [],.slnil]] h u h/\Ė h F bi 3 u {b with AW:=b.AW++[zm]}:=by
 obtain⟨g,f,c,tt,G,w,hc,rfl⟩:=w;let⟨fs,d,hf⟩:=hc;have ha:=rm.AW;have HB:zr fs=zr b.AW:=by rw[<-d,Ao]
 have hp:Lr zm fs=fs:=Ac (by simp[zm]);let⟨u,e',Qu,r2,hu⟩:=f156 (h:=h) (l:=fs) hf Ab (oM d λx hx=>((rm.DL x hx).2).1) (e:=⟨zm,.slnil,zg ⟨rfl,rfl⟩⟩) (by rw[bN];decide);rw[hp] at hu;exact⟨c,u,w.l3,r2,w.st (k:=3) (v0:=c) rfl (AX.cells hu),⟨g,f,u,tt,G,w.KC (u:=u) (l:=b.AW++[zm]),⟨_,by rw[BL,d,Bm,Da,Qu],hu⟩,rfl⟩,Bd⟩
def RB.ę(w:RB h bi b F)(rm:B0 b n)(m:Int):∃v u x,A5 h zc (zu (zw (bi,6)))=zw v/\AA (.append 1 8) [.slnil,v]=zw u/\AA (.append 1 8) [u,.sl 1 [Cb m]]=zw x/\Ė h F bi 6 x {b with tm:=b.tm++[m]}:=by obtain⟨i,d,c,tt,G,w,hc,rfl⟩:=w;have e:=rm.tm;have cF:A0=140737488355328:=rfl;let⟨u,g,hu⟩:=AX.Gg (b:=8) w.t Ab;have f:=AX.JU (b:=8) (a:=m) hu Ab;have Ja:Ec (b.tm++[m]) (.sl 1 ((b.tm++[m]).map Cb)):= .mk;exact⟨tt,u,_,w.l6,g,f,w.st (k:=6) (v0:=tt) rfl (AX.cells Ja),⟨i,d,c,_,G,w.oS Ja,hc,rfl⟩,Bd⟩
def vd(hk:t.k=2):b.Kh t=
  (if t.name∈[aXv] then(b.QZ t,zz) else if t.name∈WD then(b.Iw t,zz) else if t.name∈[aXT] then(b.DE t.name t.Aj 2,zz)
  else if t.name∈sNS then(b.DE t.name t.Aj 3,zz) else if t.name∈[aXZ] then(b.DE t.name t.Aj 4,zz) else if t.name∈[aXS] then({b.Ey t with mode:=5},zz)
  else if t.name∈[AO] then({b.Ey t with AW:=(b.Ey t).AW++[zm],fs:=zz,mode:=18,tm:=(b.Ey t).tm++[18]},zz)
  else if t.name∈[aXY] then(b,zz) else b.IW.again 6):=by
 have st:∀ws,t.st ws↔t.name∈ws:=λws=>⟨λh=>h.2,λh=>⟨hk,h⟩⟩;have en:∀ws,¬t.en ws:=λws h=>by have:=h.1;omega
 have e:∀ws,¬t.odd ws:=λws h=>by have:=h.1;omega
 have j:¬¬t.ok:=by rw[Fq.ok];omega
 have f:¬t.Lg:=nv Ab;have i:¬t.k=1:=Ab;have g:¬t.k=4:=Ab;rw[BS.Kh];rw[Ac j,Ac i];by_cases d:t.name∈[aXY];.have c:=Ga (L:=[[aXv],WD,[aXT],sNS,[aXZ],[aXS],[AO]]) d Bx;rw[Af ((st _).2 d),Ac (c _ AH),Ac (c _ AH),Ac (c _ AH),Ac (c _ AH),Ac (c _ AH),Ac (c _ AH),Ac (c _ AH),Af d]
 .rw[Ac (λh=>d ((st _).1 h)),Ac (e _),Ac f,Ac g,Ac d];simp[st,en,EV]
def aMb(w:RB h bi b F)(ba:BA b)(rm:B0 b (n+6))(hm:Nm b.a)(ht:t.Sm)(hv:AL t.Aj av)(hs:t.st Ng):Ez h F 40 [zu (zw (bi,0)),zq (Co t av)] (zi (b.Kh t).2) bi (b.Kh t).1:=by
 have hk:=hs.1;have q:¬t.k=1:=Ab;have p:¬t.k=4:=Ab;have k5:¬t.k=5:=Ab;have k3:¬t.k=3:=Ab;have m:=aMa (t:=t) (by unfold Fq.ok;omega) av h;have j:=aL9 (t:=t) (nv k5) av h;have A:=Ga (L:=[[aXv],[aXS],[aXY]]) hs.2 Bx;have E:=A [aXv] AH;have i:=UE (t:=t) pJ E ht av h;rw[vd hk,Ac E];by_cases v:t.name∈WD;.rw[Af v];have f:=Fv hk nr v ht av h;let⟨h1,y,d,w1,c⟩:=aCB (n:=n+2) w ba rm hm ht hv;refine⟨_,_,?_,w1,c⟩;rw[Ad,ZP];simp only[abS,↓reduceIte,m,j,i,f,q,p,d]
 rw[Ac v];have f:=UE nr v ht av h;by_cases u:t.name∈[aXT];.rw[Af u];have g:=Fv hk vB u ht av h;let⟨h1,y,d,w1,c⟩:=pK (n:=n+2) w ba rm hm ht hv 2;refine⟨_,_,?_,w1,c⟩;rw[Ad,ZP];simp only[abS,↓reduceIte,m,j,i,f,g,q,p,d]
 rw[Ac u];have g:=UE vB u ht av h;by_cases s:t.name∈sNS;.rw[Af s];have x:=Fv hk aEc s ht av h;let⟨h1,y,d,w1,c⟩:=pK (n:=n+2) w ba rm hm ht hv 3;refine⟨_,_,?_,w1,c⟩;rw[Ad,ZP];simp only[abS,↓reduceIte,m,j,i,f,g,x,q,p,d]
 rw[Ac s];have x:=UE aEc s ht av h;by_cases r:t.name∈[aXZ];.rw[Af r];have z:=Fv hk gB r ht av h;let⟨h1,y,d,w1,c⟩:=pK (n:=n+2) w ba rm hm ht hv 4;refine⟨_,_,?_,w1,c⟩;rw[Ad,ZP];simp only[abS,↓reduceIte,m,j,i,f,g,x,z,q,p,d]
 rw[Ac r];have z:=UE gB r ht av h;have D:=A [aXS] AH;have W:=UE (t:=t) vC D ht av h;have C:t.name∈[AO]:=by
  have key:∀w∈Ng,w∈WD\/w∈[aXT]\/w∈sNS\/w∈[aXZ]\/w∈[AO]:=Bf;obtain h|h|h|h|h:=key _ hs.2
  .exact absurd h v
  .exact absurd h u
  .exact absurd h s
  .exact absurd h r
  .exact h
 rw[Ac D,Af C];have V:=aL8 (t:=t) k3 aXY av h;have U:=Fv hk vA C ht av h;let⟨h1,y,d,w1,c⟩:=Ĩ (n:=n+2) w ba rm hm ht hv;have B:B0 (b.Ey t) (n+2):=JY rm ht.Aj ht.name;let⟨v2,u2,Z,r2,T,P,K⟩:=w1.mark B;let⟨S,O,J⟩:=P1 P zz;obtain⟨R,N,H⟩:=Nj O 18;have X:B0 {b.Ey t with AW:=(b.Ey t).AW++[zm],fs:=zz,mode:=18} (n+1):=(B.iy (e:=zm) AH (λe he=>by
  obtain he|he:=Ay.1 he
  .exact .inl he
  .exact .inr (by simpa using he)) ⟨Bf,Bf,λa ha=>by cases ha⟩:B0 {b.Ey t with AW:=(b.Ey t).AW++[B5.zero]} (n+1)).eq rfl rfl rfl rfl
 obtain⟨v5,u5,z5,Y,e5,e6,Q,M,G⟩:=N.ę X 18;have em:AA (.Dk 1) [I 18]=zw (.sl 1 [Cb 18]):=rfl;refine⟨_,_,?_,M,(((c.trans K).trans J).trans H).trans G⟩;rw[Ad,ZP];simp only[abS,↓reduceIte,AQ,m,j,i,f,g,x,z,W,V,U,q,p,d,Z,r2,T,S,R,Y,e5,em,e6,Q]
end
def RS:List Ai:=[[97,114,101,97],[98,114],[101,109,98,101,100],aYi,[107,101,121,103,101,110],[119,98,114]]
def rbW:List Ai:=[[114,98],aYx]
def rpW:List Ai:=[[114,112],[114,116]]
def ny:Wd aX8 QW:=Il Bx Bx Bx
def UF:Wd aXF [aXF]:=Il Bx Bx Bx
def gC:Wd aXw [aXw]:=Il Bx Bx Bx
def vD:Wd aXu QX:=Il Bx Bx Bx
def aMc:Wd [97] [[97]]:=Il Bx Bx Bx
def nz:Wd aXE [aXE]:=Il Bx Bx Bx
def n_:Wd aXJ Uv:=Il Bx Bx Bx
def ĩ:Wd aYV rbW:=Il Bx Bx Bx
def Ī:Wd aY4 rpW:=Il Bx Bx Bx
def oa:Wd aYz Xq:=Il Bx Bx Bx
def vE:Wd aXH [aXH]:=Il Bx Bx Bx
def bB:Wd aXA [aXA]:=Il Bx Bx Bx
def pL:Wd aX0 RS:=Il Bx Bx Bx
def vF:Wd aXP [aXP]:=Il Bx Bx Bx
def ob:Wd aYf QY:=Il Bx Bx Bx
def aEe:Wd [104,114] [[104,114]]:=Il Bx Bx Bx
def WL:Wd aXG [aXG]:=Il Bx Bx Bx
def ī:Wd aYa [aYa]:=Il Bx Bx Bx
def gD:Wd aXW [aXW]:=Il Bx Bx Bx
def bC:Wd aX1 [aX1]:=Il Bx Bx Bx
def gE:Wd aXN [aXN]:=Il Bx Bx Bx
section
variable{h h':Ah}{bi:Nat}{b b':BS}{F:Nat->Prop}{n o a:Nat}{t:Fq}{av:Aa}{nm:Ai}{ws:List Ai}
def Ji(w:RB h bi b F)(g:Gz b n o a):Ez h F 91 [zu (zw (bi,0))] (zy []) bi b.BH:=by obtain⟨d,f,c,tt,G,w,hc,rfl⟩:=w;let⟨h',o',r,w',x⟩:=aLu w g.rm;exact⟨h',_,r,⟨d,o',c,tt,G,w',by have e:b.BH.AW=b.AW:=(by rw[BS.BH];split<;>rfl);rwa[e],rfl⟩,x⟩
def Gb(hm:Nm b.a):Nm b.BH.a:=by have e:b.BH.a=b.a:=(by rw[BS.BH];split<;>rfl);rwa[e]
def pM(hm:Nm b.a):Nm b.IW.a:=by have e:b.IW.a=b.a:=(by rw[BS.IW];split<;>rfl);rwa[e]
def oe(w:RB h bi b F)(g:Gz b (n+1000) o a)(ht:t.Sm)(hv:AL t.Aj av)(x:Int):Ez h F 96 [zu (zw (bi,0)),zq (Co t av),zl zn x] (zy []) bi (b.EG t.Aj x):=by obtain⟨i,f,c,tt,G,w,hc,rfl⟩:=w;obtain⟨h',G',r,w',d⟩:=aLt (m:=n) w g.ok g.rm Jh hv ht.Aj x;exact⟨h',_,r,⟨i,f,c,tt,G',w',by have e:(b.EG t.Aj x).AW=b.AW:=(by rw[BS.EG];split<;>rfl);rwa[e],rfl⟩,d⟩
def OO(w:RB h bi b F)(g:Gz b (n+5) o a)(hm:Nm b.a)(ht:t.Sm)(hv:AL t.Aj av):Ez h F 87 [zu (zw (bi,0)),zq (Co t av)] (zl zn (b.a.len+1)) bi (b.GX t.name t.Aj):=by obtain⟨d,e,c,tt,G,w,hc,rfl⟩:=w;let⟨h',o',c',G',r,w',Jq,x⟩:=aLx (m:=n) w hc g.ok g.rm hm Jh hv ht.Aj ht.name;exact⟨h',_,r,⟨d,o',c',tt,G',w',Jq,rfl⟩,x⟩
def gF(w:RB h bi b F)(g:Gz b (n+4) o a)(hm:Nm b.a)(ht:t.Sm)(hv:AL t.Aj av)(sp:Int):Ez h F 86 [zu (zw (bi,0)),zq (Co t av),zl zn sp] (zl zn (b.M5 sp)) bi (b.D9 t.name t.Aj sp):=by obtain⟨d,e,c,tt,G,w,hc,rfl⟩:=w;let⟨h',o',G',r,w',x⟩:=aGT (m:=n) w g.ok g.rm hm Jh hv ht.Aj ht.name sp;exact⟨h',_,r,⟨d,o',c,tt,G',w',by rwa[Er],rfl⟩,x⟩
section
variable(w:RB h bi b F)
def Ĭ(g:Gz b (n+4) o a)(hm:Nm b.a)(ht:t.Sm)(hv:AL t.Aj av)(s:Int):Ez h F 90 [zu (zw (bi,0)),zq (Co t av),zl zn s] (zy []) bi (b.DE t.name t.Aj s):=pK w g.ok g.rm hm ht hv s
end
def ĭ(w:RB h bi b F)(v:Bool):Ė h F bi 17 (zi v) {b with skip:=v}:=by obtain⟨e,d,c,tt,G,w,hc,rfl⟩:=w;exact⟨w.st (k:=17) rfl rfl,⟨e,d,c,tt,G,w.put rfl rfl w.o w.t,hc,rfl⟩,Bd⟩
def aMd(w:RB h bi b F)(v:Int):Ė h F bi 18 (zl zn v) {b with sw:=v}:=by obtain⟨e,d,c,tt,G,w,hc,rfl⟩:=w;exact⟨w.st (k:=18) rfl rfl,⟨e,d,c,tt,G,w.put rfl rfl w.o w.t,hc,rfl⟩,Bd⟩
def aHh(w:RB h bi b F)(v:Int):Ė h F bi 5 (zl zn v) {b with RL:=v}:=by obtain⟨e,d,c,tt,G,w,hc,rfl⟩:=w;exact⟨w.st (k:=5) rfl rfl,⟨e,d,c,tt,G,w.put rfl rfl w.o w.t,hc,rfl⟩,Bd⟩
section
variable(w:RB h bi b F)(g:Gz b n o a)
def aMe:BK cx 286 [zu (zw (bi,0))] h (zi b.Ij) h:=by
 let⟨v,f,hv,_⟩:=w.lo;have ho:=g.rm.AI;have d:=aF9 (h:=h) hv 1;have r2:=f167 (h:=h) (Dc b.AI 1) (Cw (ws:=[aXD])) Bf;have em:AA (.Dk 1) [S aXD]=zw (.sl 1 ([aXD].map Cr)):=mk1 _;have e:b.Ij=AU [aXD] (Dc b.AI 1):=by
  rw[BS.Ij];by_cases c:2<=zr b.AI;.rw[As c,gL]
  .rw[Al c,Lp (zg Ab)];rfl
 simp only[e,Ad,aA3,BD,f,d,em,r2]
def aMf:BK cx 220 [zu (zw (bi,0))] h (zq (DB b.AI).row) h:=by let⟨v,d,hv,_⟩:=w.lo;have ho:=g.rm.AI;have c:=aJD (h:=h) hv Ab;simp only[Ad,jr,abS,ER,d,c]
end
end
abbrev Nq(t:Fq)(av:Aa)(l:Ai)(ws:List Ai):Prop:=t.name∉ws->∀(h:Ah) (Q:HC) (k:Aa->IT),W cx (.call 131 [zq (Co t av),zf l] k) Q h↔W cx (k ff) Q h
def nq{t:Fq}{l:Ai}{ws:List Ai}(w:Wd l ws)(ht:t.Sm)(av:Aa):Nq t av l ws:=λhn h _ _=>(UE w hn ht av h).aFf
section
variable{h h':Ah}{bi:Nat}{b b':BS}{F:Nat->Prop}{n o a:Nat}{t:Fq}{av:Aa}{nm:Ai}{ws:List Ai}
def Nk(ht:t.Sm)(av:Aa):Nq t av aXv [aXv]/\Nq t av aXD [aXD]/\Nq t av aXy [aXy]/\Nq t av aXq Tb/\Nq t av [112] [[112]]/\Nq t av aXL CZ/\Nq t av aX8 QW/\Nq t av aXX [aXX]/\Nq t av [108,105] [[108,105]]/\Nq t av aYD pX/\Nq t av aXF [aXF]/\Nq t av aXw [aXw]/\Nq t av aXu QX:=⟨nq pJ ht av,nq nu ht av,nq WK ht av,nq Ĥ ht av,nq aL7 ht av,nq np ht av,nq ny ht av,nq nl ht av,nq ĥ ht av,nq Ħ ht av,nq UF ht av,nq gC ht av,nq vD ht av⟩
section
variable(w:RB h bi b F)
def aHi(g:Gz b (n+1000) o a)(hm:Nm b.a)(ht:t.Sm)(hv:AL t.Aj av)(hk:t.k=2)(hn:t.name∈[aXv]):Ez h F 139 [zu (zw (bi,0)),zq (Co t av)] (zy []) bi (b.QZ t):=by
 have i:=Fv hk pJ hn ht av h;have c:=aCz w g;rw[BS.QZ];by_cases f:b.Rs;.rw[Af (z1 f)];rw[As f] at c;refine⟨_,_,?_,w,.refl⟩;simp[Ad,ED,abS,i,c]
 rw[Al f] at c;let⟨v,l,d,_⟩:=w.lo;have le:=AX.CK d;by_cases e:b.AI=[]
 .rw[Af (zg e)];have j:¬(0:Int)<(zr b.AI:Int):=by rw[e];decide
  refine⟨_,_,?_,w,.refl⟩;simp only[Ad,ED,abS,i,c,l,le,j]
 have hp:0<zr b.AI:=Ej.2 e;rw[Ac (by simp[f,e]),show Dc b.AI 0=b.AI[0] from FG hp];have ea:=AX.BG (k:= zn) d hp;have j:(0:Int)<(zr b.AI:Int):=Ab;let⟨h1,q,p,w1,m⟩:=oe w g ht hv b.AI[0].node;refine⟨_,_,?_,w1,m⟩;simp only[Ad,ED,BD,Wn,i,c,l,le,j,show AA (.EE 4) [v,I 0]=_ from ea,ER,p]
def aCE(g:Gz b (n+4) o a)(hm:Nm b.a)(ht:t.Sm)(hv:AL t.Aj av)(hk:t.k=2)(hn:t.name∈Tb):Ez h F 139 [zu (zw (bi,0)),zq (Co t av)] (zy []) bi (b.block t):=by have c:=Ga (L:=[[aXv],[aXD],[aXy]]) hn Bx;simp only[Bk] at c;have j:=Fv hk Ĥ hn ht av h;let⟨h1,l,i,w1,e⟩:=Ji w g;let⟨h2,F2,r2,f,d⟩:=H9 w1 g.BH (Gb hm) ht hv;refine⟨_,_,?_,f,e.trans d⟩;simp[Ad,ED,abS,Nk ht av,c,Ag,j,i,r2]
def o_p(g:Gz b (n+4) o a)(hm:Nm b.a)(ht:t.Sm)(hv:AL t.Aj av)(hk:t.k=2)(hn:t.name∈[[112]]):Ez h F 139 [zu (zw (bi,0)),zq (Co t av)] (zy []) bi (b.block t):=by have c:=Ga (L:=[[aXv],[aXD],[aXy],Tb]) hn Bx;simp only[Bk] at c;have j:=Fv hk aL7 hn ht av h;let⟨h1,l,i,w1,e⟩:=Ji w g;let⟨h2,F2,r2,f,d⟩:=H9 w1 g.BH (Gb hm) ht hv;refine⟨_,_,?_,f,e.trans d⟩;simp[Ad,ED,abS,Nk ht av,c,Ag,j,i,r2]
def aHj(g:Gz b (n+1000) o a)(hm:Nm b.a)(ht:t.Sm)(hv:AL t.Aj av)(hk:t.k=2)(hn:t.name∈[aXD]):Ez h F 139 [zu (zw (bi,0)),zq (Co t av)] (zy []) bi (b.Nh t):=by
 have f:=Ga (L:=[[aXv]]) hn Bx;simp only[Bk] at f;have j:=Fv hk nu hn ht av h;have vV:¬t.name=aXv:=by rw[AM.1 hn];decide
 have c:=aMe w g;have r2:=aCz w g;rw[BS.Nh];rw[Ac vV];cases d:b.Ij with
 |false=>rw[d] at c;simp[CA,EV,ite_self];refine⟨_,_,?_,w,.refl⟩;simp[Ad,ED,abS,Nk ht av,f,Ag,j,c]
 |true=>
  rw[d] at c;have hl:2<=zr b.AI:=by rw[BS.Ij] at d;rw[Bq] at d;exact DP d.1
  by_cases i:b.Rs;.rw[Af (z1 i)];rw[As i] at r2;refine⟨_,_,?_,w,.refl⟩;simp[Ad,ED,abS,Nk ht av,f,Ag,j,c,r2]
  rw[Al i] at r2;rw[Ac (show¬(b.Rs\/b.AI=[]) from λh=>h.elim i λe=>by rw[e] at hl;simp at hl),Af rfl,show Dc b.AI 1=b.AI[1] from FG (n:=1) hl];let⟨r,w1,p⟩:=P1 w zz;have g1:Gz {b with fs:=zz} (n+1000) o a:=g.eq rfl rfl rfl rfl rfl;let⟨v,u,l,_⟩:=w1.lo;have ea:=AX.BG (k:= zn) l (n:=1) hl;let⟨h2,F2,s,q,m⟩:=oe w1 g1 ht hv b.AI[1].node;refine⟨_,_,?_,q,p.trans m⟩;simp only[Ad,ED,BD,Wn,Nk ht av,f,Ag,j,c,r2,r,u,show AA (.EE 4) [v,I 1]=_ from ea,ER,s]
end
def aMg(w:RB h bi b F)(g:Gz b n o a){x:Int}(hx:b.a.has x):∃d,A5 h zc (zu (zw (bi,0)))=zw (zu (zw (d,0)))/\Ez h F 277 [zu (zw (d,0)),zl zn x] (I 0) bi {b with a:=b.a.cut x}:=by
 obtain⟨d,k,c,e,G,w,hc,rfl⟩:=w;let⟨h',G',r,w',x'⟩:=w.step (A':=b.a.cut x) (R:=λh'=>BK cx 277 [zu (zw (d,0)),zl zn x] h (I 0) h') λn i ps j=>by let⟨h1,Yd,r,w1,f⟩:=aDX j hx (λy=>(g.rm.Wt.Be g.ok.ok y)) g.ok.ok;exact⟨h1,n,i,Yd,r,w1,f⟩
 exact⟨d,w.l0,h',_,r,⟨d,k,c,e,G',w',hc,rfl⟩,x'⟩
def cf(w:RB h bi b F)(g:Gz b (n+4) o a)(hm:Nm b.a)(ht:t.Sm)(hv:AL t.Aj av)(hk:t.k=2)(hn:t.name∈[aXy]):Ez h F 139 [zu (zw (bi,0)),zq (Co t av)] (zy []) bi (b.JE t):=by
 have f:=Ga (L:=[[aXv],[aXD]]) hn Bx;simp only[Bk] at f;have j:=Fv hk WK hn ht av h;have d:=aMe w g;have l0:=w.l8;rw[BS.JE];cases c:b.Ij with
 |false=>rw[c] at d;rw[Af (z1 rfl)];refine⟨_,_,?_,w,.refl⟩;simp[Ad,ED,abS,Nk ht av,f,Ag,j,d]
 |true=>
 rw[c] at d;by_cases e:b.fs=zz;.rw[Af (zg e)];rw[e] at l0;refine⟨_,_,?_,w,.refl⟩;simp[Ad,ED,abS,Nk ht av,f,Ag,j,d,l0]
 rw[Ac (by simp[e])];rw[Bool.not_eq_false] at e;rw[e] at l0;have hl:2<=zr b.AI:=by rw[BS.Ij] at c;rw[Bq] at c;exact DP c.1
 have hi:=g.ok.op _ (Q4 c);have g1:Gz ({b with a:=b.a.cut (Dc b.AI 1).node,AI:=b.AI.take 1}:BS) (n+4) o a:=(⟨g.ok.JA (Vo g.ok.ok hi.1 (by rw[hi.2.1];decide)) ZG,g.rm.JA Ux,g.AI,g.AW⟩:Gz {b with a:=b.a.cut (Dc b.AI 1).node} (n+4) o a).K5 (lo:=b.AI.take 1) (CB _ _);have vW:Nm (b.a.cut (Dc b.AI 1).node):=hm.le ZG Ux.n;have hx:=hi.1;rw[show Dc b.AI 1=b.AI[1] from FG (n:=1) hl] at hx g1 vW⊢;let⟨v,K,m,_⟩:=w.lo;have ea:=AX.BG (k:= zn) m (n:=1) hl;let⟨R,J,h1,T,H,w1,B⟩:=aMg w g (x:=b.AI[1].node) hx;let⟨v3,l3,ax,i⟩:=w1.lo;have aRk:BZ b.AI v3:=ax;let⟨P,N,q⟩:=AX.Mo (k:= zn) aRk (n:=1) Ab;let⟨O,M,p⟩:=AX.Gg (b:=40) q (by have:=g.rm.AI;have:A0=140737488355328:=rfl;rw[Ax];omega);let⟨⟨u,s,r⟩,A⟩:=i (l:=b.AI.take 1) p [];rw[BB] at u s r A;let⟨Q,S,G,D,z⟩:=H9 s g1 vW ht hv;let⟨E,C,y⟩:=Nj D 20;refine⟨_,_,?_,C,((B.trans r).trans z).trans y⟩;simp only[Ad,ED,BD,Wn,Nk ht av,f,Ag,j,d,l0,J,K,show AA (.EE 4) [v,I 1]=_ from ea,ER,H,l3,show AA (.K9 4 zz zz zo) [v3,I 1]=_ from N,M,u,G,E]
def aMh(hs:zr nm<9223372036854775807):JN cx 287 [zf nm] (zi (decide (nm∈CZ))):=by simp[LY,aA4,BD,GY np.len hs,np.w]
def ve(i:Item):i.row=[zl zn i.node,zl zn i.A7,zf i.name,zi i.NM]:=rfl
def Į(g:Gz b n o a):(DB b.AI).name.length<9223372036854775807:=by
 rw[DB];obtain h|h:=AP 0 (zr b.AI)
 .have:=Kg (l:=b.AI) (i:=(zr b.AI:Int)-1) Ab Ab;have:=g.nmB _ this;exact this
 .rw[Lp (z1 Ab)];decide
section
variable(w:RB h bi b F)(g:Gz b (n+4) o a)(hm:Nm b.a)(ht:t.Sm)(hv:AL t.Aj av)(hk:t.k=2)
def vf(hn:t.name∈CZ):Ez h F 139 [zu (zw (bi,0)),zq (Co t av)] (zy []) bi (b.MC t):=by
 have l:=Ga (L:=[[aXv],[aXD],[aXy],Tb,[[112]]]) hn Bx;simp only[Bk] at l;have r:=Fv hk np hn ht av h;unfold BS.MC;dsimp only;let⟨h1,y,q,w1,p⟩:=Ji w g;have j:=aMf w1 g.BH;rw[ve] at j;have i:=aMh (Į g.BH);by_cases c:(DB b.BH.AI).A7=1
 .by_cases m:(DB b.BH.AI).name∈CZ;.rw[show AU CZ (DB b.BH.AI)=zo by simp[AU,c,m],Af rfl];rw[As m] at i;let⟨h2,F2,r2,x,v⟩:=uU w1 g.BH;let⟨s,u,f,e,d⟩:=H9 x g.BH.IW (pM (Gb hm)) ht hv;refine⟨_,_,?_,e,(p.trans v).trans d⟩;simp[Ad,ED,abS,Nk ht av,l,Ag,r,q,j,AE c,i.BM rfl rfl,r2,f]
  .rw[show AU CZ (DB b.BH.AI)=zz by simp[AU,c,m],Ac AH];rw[Al m] at i;let⟨s,u,f,e,d⟩:=H9 w1 g.BH (Gb hm) ht hv;refine⟨_,_,?_,e,p.trans d⟩;simp[Ad,ED,abS,Nk ht av,l,Ag,r,q,j,AE c,i.BM rfl rfl,f]
 .rw[show AU CZ (DB b.BH.AI)=zz by simp[AU,c],Ac AH];let⟨s,u,f,e,d⟩:=H9 w1 g.BH (Gb hm) ht hv;refine⟨_,_,?_,e,p.trans d⟩;simp[Ad,ED,abS,Nk ht av,l,Ag,r,q,j,c,f]
def aMi(hn:t.name∈QW):Ez h F 139 [zu (zw (bi,0)),zq (Co t av)] (zy []) bi (b.UO t):=by have c:=Ga (L:=[[aXv],[aXD],[aXy],Tb,[[112]],CZ]) hn Bx;simp only[Bk] at c;have s:=Fv hk ny hn ht av h;let⟨h1,u,r,w1,i⟩:=Ji w g;let⟨h2,F2,r2,m,f⟩:=H9 w1 g.BH (Gb hm) ht hv;let⟨q,l,e⟩:=ĭ m zo;let⟨p,j,d⟩:=P1 l zz;refine⟨_,_,?_,j,((i.trans f).trans e).trans d⟩;simp[Ad,ED,abS,Nk ht av,c,Ag,s,r,r2,q,p]
end
def gG:∀{r:List Item},HZ (AU [wP]) (HG 3) r=zo->(Mp (Di wP) Cx r).any (AU [AO])=r.any (AU [AO])/\HZ (AU [wP]) (HG 3) (Mp (Di wP) Cx r)=zo
 |[],h=>⟨rfl,h⟩
 |[x],h=>⟨rfl,h⟩
 |x::y::r,h=>by
  rw[Mp];by_cases hu:Di wP x=zo;.rw[Af hu];exact⟨rfl,h⟩
  .rw[Ac hu,Ac (by simp[Cx])];have hx:x.A7=1/\x.name∈Gr/\x.name≠wP:=by rw[Di] at hu;rw[Cd,Ly,Ly] at hu;exact⟨Sw.1 hu.1,Sw.1 hu.2.1,hu.2.2⟩
   have h1:AU [wP] x=zz:=by simp[AU,hx.2.2]
   have h2:AU [AO] x=zz:=by have key:∀w∈Gr,w≠AO:=Bf;simp[AU,key _ hx.2.1]
   have c:HZ (AU [wP]) (HG 3) (y::r)=zo:=by
    rw[HZ,h1] at h;simp only[CA,EV] at h;split at h;.cases h
    .exact h
   have:=gG c;exact⟨by rw[this.1,J5 (a:=x),h2,GM],this.2⟩
def į{x:Item}(h:AU [AO] x=zo):HG 3 x=zo:=by
 have h2:x.A7=1/\x.name∈[AO]:=DP h;rw[HG];rw[Ac Bf,Ac Bf,Ac Ab];have:AU Pb x=zo:=by simp only[AU];rw[Cd];exact⟨h2.1,by rw[AM.1 h2.2];decide⟩
 rw[this];rfl
def gH:∀{r:List Item},HZ (AU [wP]) (HG 3) r=zo->(Mp Cx (AU [wP]) r).any (AU [AO])=r.any (AU [AO])
 |[],h=>rfl
 |[x],h=>rfl
 |x::y::r,h=>by
  rw[Mp,Ac (by simp[Cx])];by_cases h1:AU [wP] x=zo
  .rw[Af h1];have h2:AU [AO] x=zz:=by have:x.A7=1/\x.name∈[wP]:=DP h1;simp[AU,AM.1 this.2,(Bf:¬wP=AO)]
   rw[J5 (a:=x),h2,GM]
  .rw[Ac h1];have c:HG 3 x=zz/\HZ (AU [wP]) (HG 3) (y::r)=zo:=by
    rw[HZ,Ac h1] at h;cases he:HG 3 x;.rw[he] at h;exact⟨rfl,zv h⟩
    .rw[he] at h;simp at h
   have h2:AU [AO] x=zz:=by
    cases ht:AU [AO] x;.rfl
    .rw[į ht] at c;cases c.1
   rw[gH c.2,J5 (a:=x),h2,GM]
def Yh:b.Rs↔b.AI.any (AU [AO])=zo:=by
 unfold BS.Rs AZ;constructor
 .intro h;cases hf:b.AI.reverse.findIdx? (AU [AO]) with
  |none=>rw[hf] at h;simp at h
  |some k=>rw[Oa];let⟨hl,hk,_⟩:=pY.1 hf;exact⟨_,z0.1 (AN hl),hk⟩
 .intro h;rw[Oa] at h;let⟨x,hx,hq⟩:=h;cases hf:b.AI.reverse.findIdx? (AU [AO]) with
  |none=>rw[List.findIdx?_eq_none_iff] at hf;have:=hf x (z0.2 hx);rw[hq] at this;cases this
  |some k=>
   let⟨hl,_⟩:=pY.1 hf;rw[I2] at hl;simp only
   omega
def cg:b.BH.Rs↔b.Rs:=by
 rw[Yh,Yh];rw[BS.BH];split;next h=>have h1:=gG h;have h2:=gH h1.2;simp only[DI];rw[Iz,za,h2,h1.1,za]
 .rfl
def aCF{nm:Ai}{l:List A9}(h:nm≠AO):(b.D9 nm l 1).Rs↔b.Rs:=by
 have hs:BS.If 1:=Bf;have e:(b.D9 nm l 1).AI=b.AI++[⟨b.a.len+1,1,nm,Fl 1 nm (l.map (C2 1))⟩]:=by simp[BS.D9,Af hs,BS.Ex,BS.Hb,show BS.I0 1 nm=nm from Ac Bf]
 rw[Yh,Yh,e,WO];simp[AU,h]
section
variable(w:RB h bi b F)
def aHk(g:Gz b (n+4) o a)(hm:Nm b.a)(ht:t.Sm)(hv:AL t.Aj av)(hk:t.k=2)(hn:t.name∈[aXX]):Ez h F 139 [zu (zw (bi,0)),zq (Co t av)] (zy []) bi (b.Uw t):=by
 have i:=Ga (L:=[[aXv],[aXD],[aXy],Tb,[[112]],CZ,QW]) hn Bx;simp only[Bk] at i;have j:=Fv hk nl hn ht av h;have l8:=w.l8.1;have l:=aCz w g;have FX:∀{c:BS},(c.Ey t).Rs↔c.Rs:=aCF (by rw[AM.1 hn];decide);let⟨h1,x,p,w1,r⟩:=Ji w g;let⟨h2,F2,r2,m,q⟩:=H9 w1 g.BH (Gb hm) ht hv;have e:=aCz m (g.BH.Ey ht);rw[Ds.2 ((FX (c:=b.BH)).trans cg)] at e;rw[BS.Uw];dsimp only;by_cases f:b.Rs
 .rw[As f] at l e;rw[Ac (by simp[f]),Af f];refine⟨_,_,?_,m,r.trans q⟩;rw[Ad,ED];by_cases d:b.KP=0;.simp only[abS,↓reduceIte,Nk ht av,i,Ag,j,l8,AE d,p,r2,e]
  .simp only[abS,↓reduceIte,Nk ht av,i,Ag,j,l8,d,l,p,r2,e]
 .rw[Al f] at l e;by_cases d:b.KP=0;.rw[Ac (by simp[d]),Ac f,show b.BH.M5 1=b.BH.a.len+1 from Af Bf];let⟨v,u,s⟩:=aHf m (b.BH.a.len+1);refine⟨_,_,?_,u,(r.trans q).trans s⟩;simp[Ad,ED,abS,Nk ht av,i,Ag,j,l8,AE d,p,r2,e,v]
  .rw[Af ⟨d,f⟩];refine⟨_,_,?_,w,.refl⟩;simp[Ad,ED,abS,Nk ht av,i,Ag,j,l8,d,l]
def İ(g:Gz b n o a){l:Ai}{ws:List Ai}(hw:Wd l ws):Ez h F 288 [zu (zw (bi,0)),zf l] (zy []) bi (({b with fs:=zz}:BS).EU ws):=by
 let⟨A,w1,y⟩:=P1 w zz;have g1:Gz {b with fs:=zz} n o a:=g.eq rfl rfl rfl rfl rfl;have IJ:Ev cx 288 [zu (zw (bi,0)),zf l] h λr h'=>r= zy []/\∃F',RB h' bi (({b with fs:=zz}:BS).EU ws) F'/\Du (put h bi 14 ff) F h' F':=by
  unfold Ev;generalize({b with fs:=zz}:BS)=c at*;generalize put h bi 14 ff=hs at*;let⟨v,m,q,_⟩:=w1.lo;have le:=AX.CK q;have e0:(c.AI.length:Int)<=900000000:=by have:=g1.rm.AI;omega
  simp only[aA5,abS,A,m,le,C0 ((c.AI.length:Int)) 1];refine Bj (λn:Nat=>[zl zn ((n:Int)-1)]) (λn h1=>n<=zr c.AI/\c.AI.reverse.find? (BS.Hi ws)=(c.AI.take n).reverse.find? (BS.Hi ws)/\h1=hs) (λn=>n) (zr c.AI) rfl ⟨Ae _,by rw[Bt],rfl⟩ ?_;rintro n h1 ⟨hn,ha,rfl⟩;cases n with
  |zero=>
   have e:c.EU ws=c:=by unfold BS.EU;rw[ha];rfl
   simp only[abS,(Ab:¬(0:Int)<=((0:Nat):Int)-1)];exact⟨_,rfl,rfl,F,by rw[e];exact w1,.refl⟩
  |succ n=>
   have hlt:n<zr c.AI:=Ab;have i1:((n+1:Nat):Int)-1=(n:Int):=Ab;have ea:=AX.BG (k:= zn) q hlt;have hnm:c.AI[n].name.length<9223372036854775807:=g1.nmB _ (AN hlt);rw[M9 hlt,DZ] at ha;generalize hi:c.AI[n]=i at*;have em:AA (.Dk 1) [S aYB,S aYX,S [112]]=zw (.sl 1 (P0.map Cr)):=D2 (ws:=P0) rfl Bf;have j:=f167 (h:=h1) i (Cw (ws:=P0)) Bf;have sub:=C0 ((n:Int)) 1;have f:=λ{Q:HC} {h:Ah} {k:Aa->IT}=>GY (Q:=Q) (h:=h) (k:=k) hw.len hnm;have hsp:=λ{Q:HC} {h:Ah} {k:Aa->IT}=>Z0 (n:=i.A7) (Q:=Q) (h:=h) (k:=k) hnm;by_cases s:AU ws i=zo
   .have d:i.A7=1/\i.name∈ws:=DP s;let⟨h2,F2,B,z,x⟩:=u9 w1 g1 i.name i.name;have e:c.EU ws=c.GR i.name i.name:=by unfold BS.EU;rw[ha];simp[BS.Hi,s]
    simp only[abS,Nat.reduceLeDiff,↓reduceIte,ER,i1,MW,m,ea,AE d.1,f,hw.w,As d.2,B];exact⟨_,rfl,rfl,F2,by rw[e];exact z,x⟩
   .have uH:AU ws i=zz:=zv s
    have C:BS.Hi ws i=(C1 i&& !(AU P0 i)):=by simp[BS.Hi,uH]
    rw[C] at ha;have stop:C1 i=zo->AU P0 i=zz->c.EU ws=c:=λh1 h2=>by unfold BS.EU;rw[ha,h1,h2];simp[uH]
    have go:(C1 i&& !(AU P0 i))=zz->c.AI.reverse.find? (BS.Hi ws)=(c.AI.take n).reverse.find? (BS.Hi ws):=λh1=>by rw[ha,h1]
    have p:Dh i.A7 i.name=C1 i:=rfl;by_cases d:i.A7=1
    .have u:i.name∉ws:=λh=>s (by simp[AU,d,h]);cases hq:C1 i with
     |false=>simp only[abS,Nat.reduceLeDiff,↓reduceIte,ER,i1,MW,m,ea,AE d,f,hw.w,Al u,hsp,p,hq,sub];exact AJ.next n rfl ⟨Ab,go (by rw[hq];rfl),rfl⟩ Ab
     |true=>
      cases hp:AU P0 i with
      |true=>rw[hp] at j;simp only[abS,Nat.reduceLeDiff,↓reduceIte,ER,i1,MW,m,ea,AE d,f,hw.w,Al u,hsp,p,hq,em,j,sub];exact AJ.next n rfl ⟨Ab,go (by rw[hq,hp];rfl),rfl⟩ Ab
      |false=>rw[hp] at j;simp only[abS,Nat.reduceLeDiff,↓reduceIte,ER,i1,MW,m,ea,AE d,f,hw.w,Al u,hsp,p,hq,em,j,sub];exact⟨_,rfl,rfl,F,by rw[stop hq hp];exact w1,.refl⟩
    .cases hq:C1 i with
     |false=>simp only[abS,Nat.reduceLeDiff,↓reduceIte,ER,i1,MW,m,ea,d,hsp,p,hq,sub];exact AJ.next n rfl ⟨Ab,go (by rw[hq];rfl),rfl⟩ Ab
     |true=>
      cases hp:AU P0 i with
      |true=>rw[hp] at j;simp only[abS,Nat.reduceLeDiff,↓reduceIte,ER,i1,MW,m,ea,d,hsp,p,hq,em,j,sub];exact AJ.next n rfl ⟨Ab,go (by rw[hq,hp];rfl),rfl⟩ Ab
      |false=>rw[hp] at j;simp only[abS,Nat.reduceLeDiff,↓reduceIte,ER,i1,MW,m,ea,d,hsp,p,hq,em,j,sub];exact⟨_,rfl,rfl,F,by rw[stop hq hp];exact w1,.refl⟩
 obtain⟨r,h',hr,rfl,F',w',x'⟩:=IJ.ret;exact⟨h',F',hr,w',y.trans x'⟩
def aRl(g:Gz b (n+4) o a)(hm:Nm b.a)(ht:t.Sm)(hv:AL t.Aj av)(hk:t.k=2)(hn:t.name∈[[108,105]]):Ez h F 139 [zu (zw (bi,0)),zq (Co t av)] (zy []) bi ((({b with fs:=zz}:BS).EU [[108,105]]).block t):=by
 have f:=Ga (L:=[[aXv],[aXD],[aXy],Tb,[[112]],CZ,QW,[aXX]]) hn Bx;simp only[Bk] at f;have s:=Fv hk ĥ hn ht av h;have i:Gz (({b with fs:=zz}:BS).EU [[108,105]]) (n+4) o a:=(g.eq (c:={b with fs:=zz}) rfl rfl rfl rfl rfl).EU;have d:Nm (({b with fs:=zz}:BS).EU [[108,105]]).a:=by
  have e:(({b with fs:=zz}:BS).EU [[108,105]]).a=b.a:=by
   rw[BS.EU];split;.split<;>rfl
   .rfl
  rwa[e]
 let⟨h0,v,r,w0,m⟩:=İ w g ĥ;let⟨h1,u,q,w1,l⟩:=Ji w0 i;let⟨h2,F2,r2,p,j⟩:=H9 w1 i.BH (Gb d) ht hv;refine⟨_,_,?_,p,(m.trans l).trans j⟩;simp[Ad,ED,abS,Nk ht av,f,Ag,s,r,q,r2]
def aRm(g:Gz b (n+4) o a)(hm:Nm b.a)(ht:t.Sm)(hv:AL t.Aj av)(hk:t.k=2)(hn:t.name∈pX):Ez h F 139 [zu (zw (bi,0)),zq (Co t av)] (zy []) bi ((({b with fs:=zz}:BS).EU pX).block t):=by
 have f:=Ga (L:=[[aXv],[aXD],[aXy],Tb,[[112]],CZ,QW,[aXX],[[108,105]]]) hn Bx;simp only[Bk] at f;have s:=Fv hk Ħ hn ht av h;have i:Gz (({b with fs:=zz}:BS).EU pX) (n+4) o a:=(g.eq (c:={b with fs:=zz}) rfl rfl rfl rfl rfl).EU;have d:Nm (({b with fs:=zz}:BS).EU pX).a:=by
  have e:(({b with fs:=zz}:BS).EU pX).a=b.a:=by
   rw[BS.EU];split;.split<;>rfl
   .rfl
  rwa[e]
 let⟨h0,v,r,w0,m⟩:=İ w g Ħ;let⟨h1,u,q,w1,l⟩:=Ji w0 i;let⟨h2,F2,r2,p,j⟩:=H9 w1 i.BH (Gb d) ht hv;refine⟨_,_,?_,p,(m.trans l).trans j⟩;simp[Ad,ED,abS,Nk ht av,f,Ag,s,r,q,r2]
def vG(g:Gz b (n+4) o a)(hm:Nm b.a)(ht:t.Sm)(hv:AL t.Aj av)(hk:t.k=2)(hn:t.name∈[aXF]):Ez h F 139 [zu (zw (bi,0)),zq (Co t av)] (zy []) bi ({b.block t with sw:=5}):=by have c:=Ga (L:=[[aXv],[aXD],[aXy],Tb,[[112]],CZ,QW,[aXX],[[108,105]],pX]) hn Bx;simp only[Bk] at c;have p:=Fv hk UF hn ht av h;let⟨h1,q,m,w1,f⟩:=Ji w g;let⟨h2,F2,r2,j,e⟩:=H9 w1 g.BH (Gb hm) ht hv;let⟨l,i,d⟩:=aMd j 5;refine⟨_,_,?_,i,(f.trans e).trans d⟩;simp[Ad,ED,abS,Nk ht av,c,Ag,p,m,r2,l]
def ı(g:Gz b (n+4*a+4) o a)(hm:Nm b.a)(ht:t.Sm)(hv:AL t.Aj av)(hk:t.k=2)(hn:t.name∈[aXw]):Ez h F 139 [zu (zw (bi,0)),zq (Co t av)] (zy []) bi (b.Q0 t):=by
 have q:=Ga (L:=[[aXv],[aXD],[aXy],Tb,[[112]],CZ,QW,[aXX],[[108,105]],pX,[aXF]]) hn Bx;simp only[Bk] at q;have r:=Fv hk gC hn ht av h;have c:=aCy w g 1 aXw;unfold BS.Q0;dsimp only;have x:b.has [aXw]=b.Q3 1 (AU [aXw]):=rfl;rw[x];cases hs:b.Q3 1 (AU [aXw]) with
 |true=>rw[hs] at c;rw[Af rfl];let⟨h1,z,u,w1,s⟩:=u9 w g aXw [];have g1:Gz (b.GR aXw []) (n+4+4*a) o a:=(g.dn Ab).GR;let⟨h2,F2,r2,l,f⟩:=Eu w1 g1 hm;let⟨v,y,p,j,e⟩:=H9 l g1.A6 (DW hm g1) ht hv;let⟨m,i,d⟩:=P1 j zz;refine⟨_,_,?_,i,((s.trans f).trans e).trans d⟩;simp[Ad,ED,abS,Nk ht av,q,Ag,r,c,u,r2,p,m]
 |false=>rw[hs] at c;rw[Ac AH];have g1:Gz b (n+4+4*a) o a:=g.dn Ab;let⟨h2,F2,r2,l,f⟩:=Eu w g1 hm;let⟨v,y,p,j,e⟩:=H9 l g1.A6 (DW hm g1) ht hv;let⟨m,i,d⟩:=P1 j zz;refine⟨_,_,?_,i,(f.trans e).trans d⟩;simp[Ad,ED,abS,Nk ht av,q,Ag,r,c,r2,p,m]
def aHl(g:Gz b (n) o a)(hm:Nm b.a)(ht:t.Sm)(hv:AL t.Aj av)(hk:t.k=2)(hn:t.name∈QX):Ez h F 139 [zu (zw (bi,0)),zq (Co t av)] (zy []) bi (b):=by have c:=Ga (L:=[[aXv],[aXD],[aXy],Tb,[[112]],CZ,QW,[aXX],[[108,105]],pX,[aXF],[aXw]]) hn Bx;simp only[Bk] at c;have d:=Fv hk vD hn ht av h;refine⟨_,_,?_,w,.refl⟩;simp[Ad,ED,abS,Nk ht av,c,Ag,d]
end
def cj(w:RB h bi b F)(g:Gz b (n) o a)(hm:Nm b.a)(ht:t.Sm)(hv:AL t.Aj av)(hk:t.k=2)(c:∀l∈[[aXv],[aXD],[aXy],Tb,[[112]],CZ,QW,[aXX],[[108,105]],pX,[aXF],[aXw],QX],t.name∉l)(hr:Ez h F 291 [zu (zw (bi,0)),zq (Co t av)] (zy []) bi b'):Ez h F 139 [zu (zw (bi,0)),zq (Co t av)] (zy []) bi (b'):=by simp only[Bk] at c;let⟨h1,f,e,w1,d⟩:=hr;refine⟨_,_,?_,w1,d⟩;simp[Ad,ED,abS,Nk ht av,c,Ag,e]
def UG(ht:t.Sm)(av:Aa):Nq t av [97] [[97]]/\Nq t av aXz RQ/\Nq t av aXE [aXE]/\Nq t av aXJ Uv/\Nq t av aYV rbW/\Nq t av aY4 rpW/\Nq t av aYz Xq:=⟨nq aMc ht av,nq ħ ht av,nq nz ht av,nq n_ ht av,nq ĩ ht av,nq Ī ht av,nq oa ht av⟩
def gI(hm:Nm b.a)(g:Gz b (n+8*(4*(o+8)+10)) o a):Nm (b.CI nm).a:=by
 rw[BS.CI];split;.exact pM hm
 .exact Nm.En (n:=8) (k:=zr b.AI) (m:=n) hm (Ae _) (g.rm.le (by have:=g.AI;omega))
def RB.find(w:RB h bi b F)(g:Gz b n o a)(nm:Ai):∃v,A5 h zc (zu (zw (bi,3)))=zw v/\BK cx 352 [v,zf nm] h (zl zn (DT nm b.AW)) h/\(0<=DT nm b.AW->∃x y,AA (.EE 3) [v,zl zn (DT nm b.AW)]=zw (.CH [zl zn (b.AW.getD (DT nm b.AW).toNat zm).node,x,y])):=by
 obtain⟨j,i,c,tt,G,w,hc,rfl⟩:=w;have ha:=g.rm.AW;have hr:=hc.aD6 Ab nm h;refine⟨c,w.l3,hr,λh0=>?_⟩;let⟨fs,Gp,hv⟩:=hc;have HB:zr fs=zr b.AW:=by rw[<-Gp,Ao]
 have hlt:(DT nm b.AW).toNat<zr b.AW:=by let⟨p,hp,e⟩:=OH h0;omega
 have d:=AX.BG (k:= zn) hv (n:=(DT nm b.AW).toNat) Ab;rw[E3 h0] at d;have f:b.AW.getD (DT nm b.AW).toNat zm=(fs[(DT nm b.AW).toNat]'(by omega)).c:=by rw[AS,An hlt,FE];simp[<-Gp,CR]
 rw[f];exact⟨_,_,d⟩
def RB.ix(w:RB h bi b F)(g:Gz b n o a)(x:Int):∃v,A5 h zc (zu (zw (bi,3)))=zw v/\BK cx 221 [v,zl zn x] h (zl zn (D8 x b.AW)) h/\(0<=D8 x b.AW->∃u,BK cx 282 [v,zl zn (D8 x b.AW)] h u h/\Ė h F bi 3 u {b with AW:=Bg b.AW (D8 x b.AW).toNat}):=by
 obtain⟨i,f,c,tt,G,w,hc,rfl⟩:=w;have ha:=g.rm.AW;refine⟨c,w.l3,hc.ix (n:=0) Ab x h,λh0=>?_⟩;have hlt:(D8 x b.AW).toNat<zr b.AW:=by let⟨p,hp,e,_⟩:=GZ h0;omega
 let⟨u,r2,hu,d⟩:=hc.wo Ab hlt h;rw[E3 h0] at r2;exact⟨u,r2,w.st (k:=3) (v0:=c) rfl d,⟨i,f,u,tt,G,w.KC (u:=u) (l:=Bg b.AW (D8 x b.AW).toNat),hu,rfl⟩,Bd⟩
section
variable(w:RB h bi b F)
def RB.out(g:Gz b n o a)(x:Int):∃v u d t,A5 h zc (zu (zw (bi,2)))=zw v/\BK cx 137 [v,zl zn x] h (zy [u,d]) (h++t)/\Ė (h++t) F bi 2 u {b with AI:=CN x b.AI}/\Du h F (h++t) F:=by let⟨v,l,hv,wr⟩:=w.lo;let⟨u,t,r,hu⟩:=aJK (h:=h) hv (by have:=g.rm.AI;omega) x;exact⟨v,u,_,t,l,r,(wr hu t).1,(wr hu t).2⟩
def p_a(g:Gz b (n+8*(4*(o+8)+10)+4*(a+8)+5) o a)(hm:Nm b.a)(ht:t.Sm)(hv:AL t.Aj av)(hk:t.k=2)(hn:t.name∈[[97]]):Ez h F 291 [zu (zw (bi,0)),zq (Co t av)] (zy []) bi (b.uN t):=by
 have I:=Fv hk aMc hn ht av h;have f:Gz b ((n+4*(a+8)+5)+8*(4*(o+8)+10)) o a:=g.dn Ab;let⟨v1,l1,H,X⟩:=w.find f [97];unfold BS.uN BS.fmt;have d:=f.Ni;have qt:Nm b.Ni.a:=by
  rw[BS.Ni];dsimp only;split;.exact hm
  .exact gI (nm:=[97]) hm f
 by_cases M:DT [97] b.AW<0
 .have e:b.Ni=b:=by rw[BS.Ni];dsimp only;rw[Af M]
  rw[e];let⟨h2,F2,r2,j,i⟩:=Eu (n:=n+5) w (g.dn Ab) hm;let⟨K,F3,m,P,N⟩:=OO j (Gz.A6 (n:=n+5) (g.dn Ab)) (DW (n:=n+5) hm (g.dn Ab)) ht hv;refine⟨_,_,?_,P,i.trans N⟩;simp[Ad,Hv,BD,Wn,I,l1,H,(Ab:¬(0:Int)<=DT [97] b.AW),r2,m]
 .have h0:0<=DT [97] b.AW:=by omega
  let⟨y1,y2,ea⟩:=X h0;let⟨h2,F2,r2,j,i⟩:=uZ (n:=n+4*(a+8)+5) w f hm [97];have g2:=Gz.CI (nm:=[97]) f;have e:b.Ni={b.CI [97] with AW:=BS.IY (b.CI [97]).AW (b.AW.getD (DT [97] b.AW).toNat zm).node,AI:=CN (b.AW.getD (DT [97] b.AW).toNat zm).node (b.CI [97]).AI}:=by rw[BS.Ni];dsimp only;rw[Ac M]
  generalize(b.AW.getD (DT [97] b.AW).toNat zm).node=nd at*;let⟨v3,l3,m,W⟩:=j.ix g2 nd;by_cases L:D8 nd (b.CI [97]).AW<0
  .have p:BS.IY (b.CI [97]).AW nd=(b.CI [97]).AW:=Af L;let⟨v5,B,Y,t5,J,G,⟨C,A,s⟩,v⟩:=j.out g2 nd;have c:RB (put (h2++t5) bi 2 B) bi b.Ni F2:=by rwa[e,p]
   let⟨U,F6,E,z,r⟩:=Eu (n:=n+5) c (d.dn Ab) qt;let⟨T,Z,D,y,q⟩:=OO z (Gz.A6 (n:=n+5) (d.dn Ab)) (DW (n:=n+5) qt (d.dn Ab)) ht hv;refine⟨_,_,?_,y,(((i.trans v).trans s).trans r).trans q⟩;simp[Ad,Hv,BD,Wn,I,l1,H,AE h0,ea,r2,l3,m,(Ab:¬(0:Int)<=D8 nd (b.CI [97]).AW),J,G,C,E,D]
  .have K:0<=D8 nd (b.CI [97]).AW:=by omega
   have p:BS.IY (b.CI [97]).AW nd=Bg (b.CI [97]).AW (D8 nd (b.CI [97]).AW).toNat:=Ac L;let⟨Q,S,R,O,v⟩:=W K;have V:Gz {b.CI [97] with AW:=Bg (b.CI [97]).AW (D8 nd (b.CI [97]).AW).toNat} (n+4*(a+8)+5) (o+8) (a+8):=by have:=g2.sub (A4 _) (NT (l:=(b.CI [97]).AW) (x:=nd)) (Ae _);rwa [p] at this
   let⟨v5,B,Y,t5,J,G,⟨C,A,s⟩,u⟩:=O.out V nd;have c:RB (put (put h2 bi 3 Q++t5) bi 2 B) bi b.Ni F2:=by rwa[e,p]
   let⟨U,F6,E,z,r⟩:=Eu (n:=n+5) c (d.dn Ab) qt;let⟨T,Z,D,y,q⟩:=OO z (Gz.A6 (n:=n+5) (d.dn Ab)) (DW (n:=n+5) qt (d.dn Ab)) ht hv;refine⟨_,_,?_,y,((((i.trans v).trans u).trans s).trans r).trans q⟩;simp[Ad,Hv,abS,I,l1,H,AE h0,ea,r2,l3,m,AE K,S,R,J,G,C,E,D]
def aMj(g:Gz b (n+4*a+5) o a)(hm:Nm b.a)(ht:t.Sm)(hv:AL t.Aj av)(hk:t.k=2)(hn:t.name∈RQ):Ez h F 291 [zu (zw (bi,0)),zq (Co t av)] (zy []) bi (b.fmt t):=by have d:=Ga (L:=[[[97]]]) hn Bx;simp only[Bk] at d;have m:=Fv hk ħ hn ht av h;have c:Gz b (n+5+4*a) o a:=g.dn Ab;let⟨h2,F2,r2,j,f⟩:=Eu w c hm;let⟨p,q,l,i,e⟩:=OO j c.A6 (DW hm c) ht hv;refine⟨_,_,?_,i,f.trans e⟩;simp[Ad,Hv,abS,UG ht av,d,Ag,m,r2,l]
def aHm(g:Gz b (n+8*(4*(o+a+8)+10)+8*a+100) o a)(hm:Nm b.a)(ht:t.Sm)(hv:AL t.Aj av)(hk:t.k=2)(hn:t.name∈[aXE]):Ez h F 291 [zu (zw (bi,0)),zq (Co t av)] (zy []) bi (b.uO t):=by
 have l:=Ga (L:=[[[97]],RQ]) hn Bx;simp only[Bk] at l;have r:=Fv hk nz hn ht av h;have m:Gz b ((n+5+4*(a+8)+8*(4*(o+a+8)+10))+4*a) o a:=g.dn Ab;let⟨h2,F2,r2,i,q⟩:=Eu w m hm;have g2:=m.A6;have TF:=DW hm m;have d:=aCy i g2 1 aXE;unfold BS.uO;dsimp only;have B:b.A6.has [aXE]=b.A6.Q3 1 (AU [aXE]):=rfl;rw[B];cases hs:b.A6.Q3 1 (AU [aXE]) with
 |true=>rw[hs] at d;rw[Af rfl];let⟨E,H,z,x,u⟩:=uZ i g2 TF aXE;have p:=Gz.CI (nm:=aXE) g2;have c:=gI (nm:=aXE) TF g2;let⟨D,G,y,v,s⟩:=Eu x p c;let⟨A,C,j,f,e⟩:=OO v p.A6 (DW c p) ht hv;refine⟨_,_,?_,f,((q.trans u).trans s).trans e⟩;simp[Ad,Hv,abS,UG ht av,l,Ag,r,r2,d,z,y,j]
 |false=>rw[hs] at d;rw[Ac AH];let⟨A,C,j,f,e⟩:=OO i (g2.dn (n':=n+5) Ab) TF ht hv;refine⟨_,_,?_,f,q.trans e⟩;simp[Ad,Hv,abS,UG ht av,l,Ag,r,r2,d,j]
def aMk(g:Gz b (n+4*a+4) o a)(hm:Nm b.a)(ht:t.Sm)(hv:AL t.Aj av)(hk:t.k=2)(hn:t.name∈Uv):Ez h F 291 [zu (zw (bi,0)),zq (Co t av)] (zy []) bi (b.Q2 t):=by
 have m:=Ga (L:=[[[97]],RQ,[aXE]]) hn Bx;simp only[Bk] at m;have p:=Fv hk n_ hn ht av h;have q:=aMf w g;have em:AA (.Dk 1) [S aXR]=zw (.sl 1 ([aXR].map Cr)):=mk1 _;have d:=f167 (h:=h) (DB b.AI) (Cw (ws:=[aXR])) Bf;have c:Gz b (n+4+4*a) o a:=g.dn Ab;rw[BS.Q2];cases hs:AU [aXR] (DB b.AI) with
 |true=>rw[hs] at d;rw[Af rfl];let⟨h1,x,s,w1,r⟩:=uU w c;let⟨h2,F2,r2,j,f⟩:=Eu w1 c.IW (pM hm);let⟨u,v,l,i,e⟩:=H9 j c.IW.A6 (DW (pM hm) c.IW) ht hv;refine⟨_,_,?_,i,(r.trans f).trans e⟩;simp only[Ad,Hv,abS,UG ht av,m,Ag,p,q,em,d,s,r2,l]
 |false=>rw[hs] at d;rw[Ac AH];let⟨h2,F2,r2,j,f⟩:=Eu w c hm;let⟨u,v,l,i,e⟩:=H9 j c.A6 (DW hm c) ht hv;refine⟨_,_,?_,i,f.trans e⟩;simp only[Ad,Hv,abS,UG ht av,m,Ag,p,q,em,d,r2,l]
def aRo(g:Gz b (n+4) o a)(hm:Nm b.a)(ht:t.Sm)(hv:AL t.Aj av)(hk:t.k=2)(hn:t.name∈rbW):Ez h F 291 [zu (zw (bi,0)),zq (Co t av)] (zy []) bi (b.aU t):=by
 have i:=Ga (L:=[[[97]],RQ,[aXE],Uv]) hn Bx;simp only[Bk] at i;have j:=Fv hk ĩ hn ht av h;have c:=aCy w g 1 aX3;have q:(if t.name=[114,112]\/t.name=[114,116] then aYx else([]:Ai))=([]:Ai):=by simp[rbW,AR,D1,L8] at hn;obtain e|e:=hn<;>rw[e]<;>decide
 rw[BS.aU];rw[q];have p:b.has [aX3]=b.Q3 1 (AU [aX3]):=rfl;rw[p];cases hs:b.Q3 1 (AU [aX3]) with
 |true=>rw[hs] at c;rw[Af rfl];let⟨h1,r,m,w1,l⟩:=VL w g ([]:Ai);let⟨h2,F2,r2,f,d⟩:=H9 w1 (g.K5 C9) hm ht hv;refine⟨_,_,?_,f,l.trans d⟩;simp[Ad,Hv,abS,UG ht av,i,Ag,j,c,m,r2]
 |false=>rw[hs] at c;rw[Ac AH];let⟨h2,F2,r2,f,d⟩:=H9 w g hm ht hv;refine⟨_,_,?_,f,d⟩;simp[Ad,Hv,abS,UG ht av,i,Ag,j,c,r2]
def aRp(g:Gz b (n+4) o a)(hm:Nm b.a)(ht:t.Sm)(hv:AL t.Aj av)(hk:t.k=2)(hn:t.name∈rpW):Ez h F 291 [zu (zw (bi,0)),zq (Co t av)] (zy []) bi (b.aU t):=by
 have i:=Ga (L:=[[[97]],RQ,[aXE],Uv,rbW]) hn Bx;simp only[Bk] at i;have j:=Fv hk Ī hn ht av h;have c:=aCy w g 1 aX3;have q:(if t.name=[114,112]\/t.name=[114,116] then aYx else([]:Ai))=aYx:=by simp[rpW,AR,D1,L8] at hn;obtain e|e:=hn<;>rw[e]<;>decide
 rw[BS.aU];rw[q];have p:b.has [aX3]=b.Q3 1 (AU [aX3]):=rfl;rw[p];cases hs:b.Q3 1 (AU [aX3]) with
 |true=>rw[hs] at c;rw[Af rfl];let⟨h1,r,m,w1,l⟩:=VL w g aYx;let⟨h2,F2,r2,f,d⟩:=H9 w1 (g.K5 C9) hm ht hv;refine⟨_,_,?_,f,l.trans d⟩;simp[Ad,Hv,abS,UG ht av,i,Ag,j,c,m,r2]
 |false=>rw[hs] at c;rw[Ac AH];let⟨h2,F2,r2,f,d⟩:=H9 w g hm ht hv;refine⟨_,_,?_,f,d⟩;simp[Ad,Hv,abS,UG ht av,i,Ag,j,c,r2]
def aMl(g:Gz b (n+4*a+4) o a)(hm:Nm b.a)(ht:t.Sm)(hv:AL t.Aj av)(hk:t.k=2)(hn:t.name∈Xq):Ez h F 291 [zu (zw (bi,0)),zq (Co t av)] (zy []) bi (b.MD t):=by
 have j:=Ga (L:=[[[97]],RQ,[aXE],Uv,rbW,rpW]) hn Bx;simp[Bk] at j;have d:=Fv hk oa hn ht av h;have e:Gz b (n+4+4*a) o a:=g.dn Ab;let⟨h1,y,p,w1,m⟩:=Eu w e hm;have Tf:t.name=aYF\/t.name=aYY:=by simpa[Xq] using hn
 unfold BS.MD;dsimp only;by_cases q:t.name=aYF
 .have l:¬t.name=aYY:=by rw[q];decide
  rw[Af q];let⟨h2,F2,r2,i,f⟩:=gF w1 e.A6 (DW hm e) ht hv 3;cases hs:t.sc with
  |true=>rw[Af rfl];let⟨v,x,u,s,r⟩:=uU i (e.A6.L9 ht.Aj ht.name);refine⟨_,_,?_,s,(m.trans f).trans r⟩;have c:=UG ht av;simp[Nq,Co,hs] at c d r2;simp[Ad,Hv,abS,c,j,Ag,d,Co,hs,p,l,r2,u]
  |false=>rw[Ac AH];refine⟨_,_,?_,i,m.trans f⟩;have c:=UG ht av;simp[Nq,Co,hs] at c d r2;simp[Ad,Hv,abS,c,j,Ag,d,Co,hs,p,l,r2]
 .have l:t.name=aYY:=Tf.resolve_left q;rw[Ac q];let⟨h2,F2,r2,i,f⟩:=gF w1 e.A6 (DW hm e) ht hv 2;cases hs:t.sc with
  |true=>rw[Af rfl];let⟨v,x,u,s,r⟩:=uU i (e.A6.L9 ht.Aj ht.name);refine⟨_,_,?_,s,(m.trans f).trans r⟩;have c:=UG ht av;simp[Nq,Co,hs] at c d r2;simp[Ad,Hv,abS,c,j,Ag,d,Co,hs,p,AE l,r2,u]
  |false=>rw[Ac AH];refine⟨_,_,?_,i,m.trans f⟩;have c:=UG ht av;simp[Nq,Co,hs] at c d r2;simp[Ad,Hv,abS,c,j,Ag,d,Co,hs,p,AE l,r2]
end
def Ĳ(w:RB h bi b F)(g:Gz b (n) o a)(hm:Nm b.a)(ht:t.Sm)(hv:AL t.Aj av)(hk:t.k=2)(c:∀l∈[[[97]],RQ,[aXE],Uv,rbW,rpW,Xq],t.name∉l)(hr:Ez h F 384 [zu (zw (bi,0)),zq (Co t av)] (zy []) bi b'):Ez h F 291 [zu (zw (bi,0)),zq (Co t av)] (zy []) bi (b'):=by simp only[Bk] at c;let⟨h1,f,e,w1,d⟩:=hr;refine⟨_,_,?_,w1,d⟩;simp[Ad,Hv,abS,UG ht av,c,Ag,e]
def PC(ht:t.Sm)(av:Aa):Nq t av aXH [aXH]/\Nq t av aXK Ny/\Nq t av aXA [aXA]/\Nq t av aX0 RS/\Nq t av aXP [aXP]/\Nq t av aYf QY/\Nq t av [104,114] [[104,114]]/\Nq t av aXG [aXG]/\Nq t av aYa [aYa]/\Nq t av aXW [aXW]/\Nq t av aX1 [aX1]/\Nq t av aXN [aXN]:=⟨nq vE ht av,nq b_ ht av,nq bB ht av,nq pL ht av,nq vF ht av,nq ob ht av,nq aEe ht av,nq WL ht av,nq ī ht av,nq gD ht av,nq bC ht av,nq gE ht av⟩
def RB.Cs(w:RB h bi b F)(g:Gz b n o a):∃e N m r,A5 h zc (zu (zw (bi,0)))=zw (zu (zw (e,0)))/\BK cx 280 [zu (zw (e,0)),zl zn b.CF] h tt h/\A5 h zc (zu (zw (e,0)))=zw (.CC N 0 m 13)/\AA (.EE 13) [.CC N 0 m 13,zl zn b.CF]=zw (zu (zw (N,r)))/\A5 h zc (zu (zw (N,r+10)))=zw (zi (b.a.nd b.CF).Cs):=by obtain⟨e,f,c,tt,G,w,hc,rfl⟩:=w;let⟨N,i,ps,d,_⟩:=w.w;have hd:=g.ok.CF.1;have r:=H8 (x:=b.CF) d;rw[As hd] at r;exact⟨e,N,zr ps+1,nR b.CF,w.l0,r,d.nodes,d.addr hd,by rw[d.P6 hd Bf,<-(d.pn hd).2];rfl⟩
def vH{nm:Ai}{l:List A9}{sp:Int}:(b.D9 nm l sp).fs=b.fs:=by
 rw[BS.D9];split;.simp only[BS.Ex];split<;>rfl
 .rfl
def gJ:(b.Iw t).fs=b.fs:=by unfold BS.Iw BS.IW BS.Ey;split<;>exact vH
def vI:∀{l:List B5} {b:BS},(BS.Ih l b).2.fs=b.fs
 |[],b=>rfl
 |x::l,b=>by rw[BS.Ih];exact(vI (l:=l)).trans vH
def pO:b.A6.fs=b.fs:=vI
def bD{nm:Ai}{l:List A9}{sp:Int}:(b.D9 nm l sp).mode=b.mode:=by
 rw[BS.D9];split;.simp only[BS.Ex];split<;>rfl
 .rfl
def bE:∀{l:List B5} {b:BS},(BS.Ih l b).2.mode=b.mode
 |[],b=>rfl
 |x::l,b=>by rw[BS.Ih];exact(bE (l:=l)).trans bD
def bF:b.A6.mode=b.mode:=bE
def cV{x:A9}{l:List A9}:zd (x::l)=if x.name=aYm then decide (FI x.value=aYd) else zd l:=by
 unfold zd;rw[DZ];by_cases h:x.name=aYm;.simp[h]
 .simp[h]
def aRq(ht:t.Sm)(hv:AL t.Aj av)(h:Ah):BK cx 418 [zq (Co t av)] h (zi (zd t.Aj)) h:=by
 have cF:A0=140737488355328:=rfl;have DR:AX 3 (t.Aj.map A9.row) av:=hv;have c:=AX.CK DR;have hb:=ht.Aj.1;simp[Ad,aBB,abS,Co];refine Bj (λn:Nat=>[ff,zl zn (n:Int)]) (λn h1=>n<=zr t.Aj/\h1=h/\zd t.Aj=zd (t.Aj.drop n)) (λn=>zr t.Aj-n) 0 rfl ⟨AV _,rfl,rfl⟩ ?_;rintro n h1 ⟨hn,rfl,ha⟩;obtain hlt|Et:=AP n (zr t.Aj)
 .have d:=AX.BG (k:= zn) DR hlt;have Qw:=(ht.Aj.2 _ (AN hlt)).2;have e:=aBF t.Aj[n].value Ab;rw[AG hlt,cV] at ha;rw[A9.row] at d;simp[abS,c,(Ab:(n:Int)<(zr t.Aj:Int)),d,e.BM rfl rfl,By n];refine⟨λh2=>?_,λh2=>?_⟩;.rw[ha,Af h2]
  .rw[Ac h2] at ha;exact AJ.next (n+1) rfl ⟨hlt,rfl,ha⟩ Ab
 .rw[AT Et] at ha;simp[abS,c,(Ab:¬(n:Int)<(zr t.Aj:Int)),ha];rfl
section
variable(w:RB h bi b F)
def aMm(g:Gz b (n+4*a+5) o a)(hm:Nm b.a)(ht:t.Sm)(hv:AL t.Aj av)(hk:t.k=2)(hn:t.name∈Ny):Ez h F 384 [zu (zw (bi,0)),zq (Co t av)] (zy []) bi (b.BW t):=by have d:=Ga (L:=[[aXH]]) hn Bx;simp only[Bk] at d;have v:=Fv hk b_ hn ht av h;have c:Gz b (n+5+4*a) o a:=g.dn Ab;let⟨h1,y,u,w1,j⟩:=Eu w c hm;let⟨h2,F2,r2,p,i⟩:=H9 w1 (c.A6.dn (n':=n+1+4) Ab) (DW hm c) ht hv;let⟨v3,x,l3,s,r,m,f⟩:=p.mark ((c.A6.dn (n':=n+1+4) Ab).Ey ht).rm;let⟨q,l,e⟩:=P1 m zz;refine⟨_,_,?_,l,((j.trans i).trans f).trans e⟩;simp[Ad,F8,abS,AQ,PC ht av,d,Ag,v,u,r2,l3,s,r,q]
def aCG(g:Gz b (n+4) o a)(hm:Nm b.a)(ht:t.Sm)(hv:AL t.Aj av)(hk:t.k=2)(hn:t.name∈[aXA]):Ez h F 384 [zu (zw (bi,0)),zq (Co t av)] (zy []) bi (b.Pv t):=by
 have s:=Ga (L:=[[aXH],Ny]) hn Bx;simp only[Bk] at s;have u:=Fv hk bB hn ht av h;let⟨C,N,m,rr,x,v,l1,ea,c⟩:=w.Cs g;have C4:=w.C4;unfold BS.Pv;dsimp only;by_cases hs:(b.a.nd b.CF).Cs=zo;.rw[hs] at c;rw[Af hs];let⟨A,B,r,l,f⟩:=H9 w g hm ht hv;let⟨q,j,e⟩:=P1 l zz;let⟨p,i,d⟩:=Nj j 9;refine⟨_,_,?_,i,(f.trans e).trans d⟩;simp[Ad,F8,abS,AQ,PC ht av,s,Ag,u,x,C4,v,l1,ea,c,r,q,p]
 .rw[Ac hs];rw[zb] at hs;rw[hs] at c;let⟨h2,F2,r2,z,y⟩:=Ji w g;let⟨A,B,r,l,f⟩:=H9 z g.BH (Gb hm) ht hv;let⟨q,j,e⟩:=P1 l zz;let⟨p,i,d⟩:=Nj j 9;refine⟨_,_,?_,i,((y.trans f).trans e).trans d⟩;simp[Ad,F8,abS,AQ,PC ht av,s,Ag,u,x,C4,v,l1,ea,c,r2,r,q,p]
def aCH(g:Gz b (n+4*a+4) o a)(hm:Nm b.a)(ht:t.Sm)(hv:AL t.Aj av)(hk:t.k=2)(hn:t.name∈RS):Ez h F 384 [zu (zw (bi,0)),zq (Co t av)] (zy []) bi ({b.A6.Iw t with fs:=zz}):=by have d:=Ga (L:=[[aXH],Ny,[aXA]]) hn Bx;simp only[Bk] at d;have q:=Fv hk pL hn ht av h;have c:Gz b (n+4+4*a) o a:=g.dn Ab;let⟨h1,r,p,w1,i⟩:=Eu w c hm;let⟨h2,F2,r2,l,f⟩:=bA w1 c.A6 (DW hm c) ht hv;let⟨m,j,e⟩:=P1 l zz;refine⟨_,_,?_,j,(i.trans f).trans e⟩;simp[Ad,F8,abS,PC ht av,d,Ag,q,p,r2,m]
def aCI(g:Gz b (n+4*a+4) o a)(hm:Nm b.a)(ht:t.Sm)(hv:AL t.Aj av)(hk:t.k=2)(hn:t.name∈[aXH]):Ez h F 384 [zu (zw (bi,0)),zq (Co t av)] (zy []) bi ({b.A6.Iw {t with name:=aYi} with fs:=zz}):=by
 have FX:({t with name:=aYi}:Fq).Sm:=ht.rn Bf;have vV:({t with name:=aYi}:Fq).name∈RS:=show aYi∈RS by decide
 have d:=Ga (L:=[Ny,[aXA]]) vV Bx;have u:=Fv hk vE hn ht av h;have s:=UE (t:={t with name:=aYi}) b_ (d _ AH) FX av h;have r:=UE (t:={t with name:=aYi}) bB (d _ AH) FX av h;have q:=Fv (t:={t with name:=aYi}) hk pL vV FX av h;have c:Gz b (n+4+4*a) o a:=g.dn Ab;let⟨h1,v,p,w1,i⟩:=Eu w c hm;let⟨h2,F2,r2,l,f⟩:=bA (t:={t with name:=aYi}) w1 c.A6 (DW hm c) FX hv;let⟨m,j,e⟩:=P1 l zz;refine⟨_,_,?_,j,(i.trans f).trans e⟩;simp[Ad,F8,abS,u,s,r,q,p,r2,m]
def aCJ(g:Gz b (n+4*a+4) o a)(hm:Nm b.a)(ht:t.Sm)(hv:AL t.Aj av)(hk:t.k=2)(hn:t.name∈[aXP]):Ez h F 384 [zu (zw (bi,0)),zq (Co t av)] (zy []) bi ({b.A6.Iw t with fs:=b.fs&&zd t.Aj}):=by
 have i:=Ga (L:=[[aXH],Ny,[aXA],RS]) hn Bx;simp only[Bk] at i;have q:=Fv hk vF hn ht av h;have j:Gz b (n+4+4*a) o a:=g.dn Ab;let⟨h1,s,p,w1,m⟩:=Eu w j hm;let⟨h2,F2,r2,e,l⟩:=bA w1 j.A6 (DW hm j) ht hv;have l8:=e.l8.2;rw[gJ,pO] at l8;have r:=aRq ht hv h2;by_cases hs:b.fs=zo;.rw[hs] at l8;let⟨f,d,c⟩:=P1 e (zd t.Aj);rw[show(b.fs&&zd t.Aj)=zd t.Aj by rw[hs,gL]];refine⟨_,_,?_,d,(m.trans l).trans c⟩;simp[Ad,F8,abS,PC ht av,i,Ag,q,p,r2,l8,r,f]
 .rw[zb] at hs;rw[hs] at l8;let⟨f,d,c⟩:=P1 e zz;rw[show(b.fs&&zd t.Aj)=zz by rw[hs,bI]];refine⟨_,_,?_,d,(m.trans l).trans c⟩;simp[Ad,F8,abS,PC ht av,i,Ag,q,p,r2,l8,f]
def aMn(g:Gz b (n+4) o a)(hm:Nm b.a)(ht:t.Sm)(hv:AL t.Aj av)(hk:t.k=2)(hn:t.name∈QY):Ez h F 384 [zu (zw (bi,0)),zq (Co t av)] (zy []) bi ({b.Iw t with fs:=b.fs}):=by
 have c:=Ga (L:=[[aXH],Ny,[aXA],RS,[aXP]]) hn Bx;simp only[Bk] at c;have i:=Fv hk ob hn ht av h;let⟨h2,F2,r2,f,d⟩:=bA w g hm ht hv;have e:({b.Iw t with fs:=b.fs}:BS)=b.Iw t:=by rw[<-gJ (b:=b) (t:=t)]
 rw[e];refine⟨_,_,?_,f,d⟩;simp[Ad,F8,abS,PC ht av,c,Ag,i,r2]
def aRr(g:Gz b (n+4) o a)(hm:Nm b.a)(ht:t.Sm)(hv:AL t.Aj av)(hk:t.k=2)(hn:t.name∈[[104,114]]):Ez h F 384 [zu (zw (bi,0)),zq (Co t av)] (zy []) bi ({b.BH.Iw t with fs:=zz}):=by have c:=Ga (L:=[[aXH],Ny,[aXA],RS,[aXP],QY]) hn Bx;simp only[Bk] at c;have p:=Fv hk aEe hn ht av h;let⟨h1,q,m,w1,f⟩:=Ji w g;let⟨h2,F2,r2,j,e⟩:=bA w1 g.BH (Gb hm) ht hv;let⟨l,i,d⟩:=P1 j zz;refine⟨_,_,?_,i,(f.trans e).trans d⟩;simp[Ad,F8,abS,PC ht av,c,Ag,p,m,r2,l]
def cm(g:Gz b (n+4) o a)(hm:Nm b.a)(ht:t.Sm)(hv:AL t.Aj av)(hk:t.k=2)(hn:t.name∈[aXG]):Ez h F 384 [zu (zw (bi,0)),zq (Co t av)] (zy []) bi ({b.DE t.name t.Aj 2 with skip:=zo,fs:=zz}):=by have d:=Ga (L:=[[aXH],Ny,[aXA],RS,[aXP],QY,[[104,114]]]) hn Bx;simp only[Bk] at d;have B:=Fv hk WL hn ht av h;let⟨h1,C,A,w1,m⟩:=H9 w g hm ht hv;let⟨z,s,l⟩:=ĭ w1 zo;let⟨y,c,j⟩:=aMd s 2;have l4:=c.C4.2.1;let⟨x,r,i⟩:=aHh c (b.Ey t).mode;obtain⟨v,q,f⟩:=P1 r zz;obtain⟨u,p,e⟩:=Nj q 8;refine⟨_,_,?_,p,((((m.trans l).trans j).trans i).trans f).trans e⟩;rw[Ad,F8];simp only[abS,↓reduceIte,PC ht av,d,Ag,B,A,z,y,l4,x,v,u]
def aMo(g:Gz b (n+4*a+4) o a)(hm:Nm b.a)(ht:t.Sm)(hv:AL t.Aj av)(hk:t.k=2)(hn:t.name∈[aYa]):Ez h F 384 [zu (zw (bi,0)),zq (Co t av)] (zy []) bi (({b.BH.A6 with fs:=zz}:BS).DE t.name t.Aj 3):=by have d:=Ga (L:=[[aXH],Ny,[aXA],RS,[aXP],QY,[[104,114]],[aXG]]) hn Bx;simp only[Bk] at d;have u:=Fv hk ī hn ht av h;have c:Gz b (n+4+4*a) o a:=g.dn Ab;let⟨h1,y,s,w1,j⟩:=Ji w c;let⟨h2,F2,r2,p,i⟩:=Eu w1 c.BH (Gb hm);let⟨q,m,f⟩:=P1 p zz;have g3:Gz ({b.BH.A6 with fs:=zz}:BS) (n+4) (o+a) a:=c.BH.A6.eq rfl rfl rfl rfl rfl;let⟨v,x,r,l,e⟩:=Ĭ m g3 (DW (Gb hm) c.BH) ht hv 3;refine⟨_,_,?_,l,((j.trans i).trans f).trans e⟩;simp[Ad,F8,abS,PC ht av,d,Ag,u,s,r2,q,r]
def ĳ(g:Gz b (n+4) o a)(hm:Nm b.a)(ht:t.Sm)(hv:AL t.Aj av)(hk:t.k=2)(hn:t.name∈[aXW]):Ez h F 384 [zu (zw (bi,0)),zq (Co t av)] (zy []) bi (({b with fs:=zz}:BS).DE t.name t.Aj 3):=by have c:=Ga (L:=[[aXH],Ny,[aXA],RS,[aXP],QY,[[104,114]],[aXG],[aYa]]) hn Bx;simp only[Bk] at c;have m:=Fv hk gD hn ht av h;let⟨j,i,e⟩:=P1 w zz;have g3:Gz ({b with fs:=zz}:BS) (n+4) o a:=g.eq rfl rfl rfl rfl rfl;let⟨p,q,l,f,d⟩:=Ĭ i g3 hm ht hv 3;refine⟨_,_,?_,f,e.trans d⟩;simp[Ad,F8,abS,PC ht av,c,Ag,m,j,l]
def vg(g:Gz b (n+4) o a)(hm:Nm b.a)(ht:t.Sm)(hv:AL t.Aj av)(hk:t.k=2)(hn:t.name∈[aX1]):Ez h F 384 [zu (zw (bi,0)),zq (Co t av)] (zy []) bi (b.DE t.name t.Aj 3):=by have c:=Ga (L:=[[aXH],Ny,[aXA],RS,[aXP],QY,[[104,114]],[aXG],[aYa],[aXW]]) hn Bx;simp only[Bk] at c;have i:=Fv hk bC hn ht av h;let⟨j,l,f,e,d⟩:=Ĭ w g hm ht hv 3;refine⟨_,_,?_,e,d⟩;simp[Ad,F8,abS,PC ht av,c,Ag,i,f]
def Ĵ(g:Gz b (n+4*a+4) o a)(hm:Nm b.a)(ht:t.Sm)(hv:AL t.Aj av)(hk:t.k=2)(hn:t.name∈[aXN]):Ez h F 384 [zu (zw (bi,0)),zq (Co t av)] (zy []) bi (b.Q1 t):=by
 have l:=Ga (L:=[[aXH],Ny,[aXA],RS,[aXP],QY,[[104,114]],[aXG],[aYa],[aXW],[aX1]]) hn Bx;simp only[Bk] at l;have v:=Fv hk gE hn ht av h;have A:Gz b (n+4+4*a) o a:=g.dn Ab;let⟨h1,C,u,w1,r⟩:=Eu w A hm;let⟨h2,F2,r2,B,q⟩:=H9 w1 A.A6 (DW hm A) ht hv;let⟨s,j,p⟩:=P1 B zz;have l4:A5 (put h2 bi 14 ff) zc (zu (zw (bi,4)))=zw (zl zn b.mode):=by have:=j.C4.2.1;rw[this];have e:({b.A6.Ey t with fs:=zz}:BS).mode=b.mode:=bD.trans bF;rw[e]
 rw[BS.Q1];by_cases i:b.mode=9;.rw[Af (z1 i)];let⟨f,d,c⟩:=Nj j 17;refine⟨_,_,?_,d,((r.trans q).trans p).trans c⟩;simp only[Ad,F8,abS,↓reduceIte,PC ht av,l,Ag,v,u,r2,s,l4,AE i,f]
 by_cases m:b.mode=11;.rw[Af (zg (z1 m))];let⟨f,d,c⟩:=Nj j 17;refine⟨_,_,?_,d,((r.trans q).trans p).trans c⟩;simp only[Ad,F8,abS,↓reduceIte,PC ht av,l,Ag,v,u,r2,s,l4,i,AE m,f]
 by_cases x:b.mode=13;.rw[Af (zg (zg (z1 x)))];let⟨f,d,c⟩:=Nj j 17;refine⟨_,_,?_,d,((r.trans q).trans p).trans c⟩;simp only[Ad,F8,abS,↓reduceIte,PC ht av,l,Ag,v,u,r2,s,l4,i,m,AE x,f]
 by_cases y:b.mode=14;.rw[Af (zg (zg (zg (z1 y))))];let⟨f,d,c⟩:=Nj j 17;refine⟨_,_,?_,d,((r.trans q).trans p).trans c⟩;simp only[Ad,F8,abS,↓reduceIte,PC ht av,l,Ag,v,u,r2,s,l4,i,m,x,AE y,f]
 by_cases z:b.mode=15;.rw[Af (zg (zg (zg (zg z))))];let⟨f,d,c⟩:=Nj j 17;refine⟨_,_,?_,d,((r.trans q).trans p).trans c⟩;simp only[Ad,F8,abS,↓reduceIte,PC ht av,l,Ag,v,u,r2,s,l4,i,m,x,y,AE z,f]
 rw[Ac (by simp[i,m,x,y,z])];let⟨f,d,c⟩:=Nj j 16;refine⟨_,_,?_,d,((r.trans q).trans p).trans c⟩;simp only[Ad,F8,abS,↓reduceIte,PC ht av,l,Ag,v,u,r2,s,l4,i,m,x,y,z,f]
def aHn(g:Gz b (n+4*a+4) o a)(hm:Nm b.a)(ht:t.Sm)(hv:AL t.Aj av)(hk:t.k=2)(d:∀l∈[[aXH],Ny,[aXA],RS,[aXP],QY,[[104,114]],[aXG],[aYa],[aXW],[aX1],[aXN]],t.name∉l):Ez h F 384 [zu (zw (bi,0)),zq (Co t av)] (zy []) bi (b.A6.Ey t):=by simp only[Bk] at d;have c:Gz b (n+4+4*a) o a:=g.dn Ab;let⟨h1,m,j,w1,f⟩:=Eu w c hm;let⟨h2,F2,r2,i,e⟩:=H9 w1 c.A6 (DW hm c) ht hv;refine⟨_,_,?_,i,f.trans e⟩;simp[Ad,F8,abS,PC ht av,d,Ag,j,r2]
end
end
end Go.Am
end
section
end
section
namespace Go.Am
open Go
section
variable{h h':Ah}{bi:Nat}{b b':BS}{F:Nat->Prop}{n o a:Nat}{t:Fq}{av:Aa}{nm:Ai}{ws:List Ai}
def vh:List (List Ai):=[[aXv],[aXD],[aXy],Tb,[[112]],CZ,QW,[aXX],[[108,105]],pX,[aXF],[aXw],QX]
def aCK:List (List Ai):=[[[97]],RQ,[aXE],Uv,rbW,rpW,Xq]
def aMp:List (List Ai):=[[aXH],Ny,[aXA],RS,[aXP],QY,[[104,114]],[aXG],[aYa],[aXW],[aX1],[aXN]]
section
variable(w:RB h bi b F)(g:Gz b n o a)(hm:Nm b.a)(ht:t.Sm)(hv:AL t.Aj av)(hk:t.k=2){X:List Ai}(hn:t.name∈X)
def WM(d:(X.all λw=>(vh++aCK).all λl=>decide (w∉l))=zo)(hr:Ez h F 384 [zu (zw (bi,0)),zq (Co t av)] (zy []) bi b'):Ez h F 139 [zu (zw (bi,0)),zq (Co t av)] (zy []) bi b':=by have c:=Ga (L:=vh++aCK) hn d;exact cj w g hm ht hv hk (λl hl=>c l (Ay.2 (z1 hl))) (Ĳ w g hm ht hv hk (λl hl=>c l (Ay.2 (zg hl))) hr)
def bG(d:(X.all λw=>vh.all λl=>decide (w∉l))=zo)(hr:Ez h F 291 [zu (zw (bi,0)),zq (Co t av)] (zy []) bi b'):Ez h F 139 [zu (zw (bi,0)),zq (Co t av)] (zy []) bi b':=by have c:=Ga (L:=vh) hn d;exact cj w g hm ht hv hk c hr
end
def cq:List Ai:=Ng++S8++CZ++QW++RQ++Ny++S9++QX++bk++aS++Xq++aT++Uv++Ta++[aXy,aXX,aXw,[97],aXE,aXA,aXN]
section
variable(w:RB h bi b F)(g:Gz b (n+8*(4*(o+a+8)+10)+8*a+2000) o a)(hm:Nm b.a)(ht:t.Sm)(hv:AL t.Aj av)(hk:t.k=2)
def aRs(h0:t.name∉Ng):Ez h F 139 [zu (zw (bi,0)),zq (Co t av)] (zy []) bi (b.opens t).1/\(b.opens t).2=zz:=by
 have ge:∀{m},m<=n+8*(4*(o+a+8)+10)+8*a+2000->Gz b m o a:=λh=>g.dn h;rw[BS.opens];rw[Ac h0];by_cases E:t.name∈S8
 .rw[Af E];refine⟨?_,rfl⟩;have key:∀w∈S8,w∈Tb\/w∈[[112]]:=Bx;obtain h|h:=key _ E
  .exact aCE (n:=n) w (ge Ab) hm ht hv hk h
  .exact o_p (n:=n) w (ge Ab) hm ht hv hk h
 rw[Ac E];by_cases D:t.name∈CZ;.rw[Af D];exact⟨vf (n:=n) w (ge Ab) hm ht hv hk D,rfl⟩
 rw[Ac D];by_cases C:t.name∈QW;.rw[Af C];exact⟨aMi (n:=n) w (ge Ab) hm ht hv hk C,rfl⟩
 rw[Ac C];by_cases z:t.name∈RQ;.rw[Af z];exact⟨bG w g hm ht hv hk z Bx (aMj (n:=n) w (ge Ab) hm ht hv hk z),rfl⟩
 rw[Ac z];by_cases y:t.name∈Ny;.rw[Af y];exact⟨WM w g hm ht hv hk y Bx (aMm (n:=n) w (ge Ab) hm ht hv hk y),rfl⟩
 rw[Ac y];by_cases x:t.name∈S9
 .rw[Af x];refine⟨WM w g hm ht hv hk x Bx ?_,rfl⟩;rw[BS.empty];by_cases c:t.name=[104,114];.rw[Af c];exact aRr (n:=n) w (ge Ab) hm ht hv hk (AM.2 c)
  rw[Ac c];by_cases d:t.name∈QY;.rw[Af d];exact aMn (n:=n) w (ge Ab) hm ht hv hk d
  rw[Ac d];by_cases q:t.name=aXP;.rw[Af q];exact aCJ (n:=n) w (ge Ab) hm ht hv hk (AM.2 q)
  rw[Ac q];by_cases p:t.name=aXH;.rw[Af p];exact aCI (n:=n) w (ge Ab) hm ht hv hk (AM.2 p)
  .rw[Ac p];have key:∀w∈S9,w=[104,114]\/w∈QY\/w=aXP\/w=aXH\/w∈RS:=Bx;obtain h|h|h|h|h:=key _ x
   .exact absurd h c
   .exact absurd h d
   .exact absurd h q
   .exact absurd h p
   .exact aCH (n:=n) w (ge Ab) hm ht hv hk h
 rw[Ac x];by_cases B:t.name∈QX;.rw[Af B];exact⟨aHl w g hm ht hv hk B,rfl⟩
 rw[Ac B];by_cases v:t.name∈bk
 .rw[Af v];refine⟨?_,rfl⟩;rw[BS.raw];by_cases c:t.name=aXF;.rw[Af c];exact vG (n:=n) w (ge Ab) hm ht hv hk (AM.2 c)
  rw[Ac c];by_cases d:t.name=aXG;.rw[Af d];exact WM w g hm ht hv hk (AM.2 d) Bx (cm (n:=n) w (ge Ab) hm ht hv hk (AM.2 d))
  rw[Ac d];by_cases q:t.name=aYa;.rw[Af q];exact WM w g hm ht hv hk (AM.2 q) Bx (aMo (n:=n) w (ge Ab) hm ht hv hk (AM.2 q))
  rw[Ac q];by_cases p:t.name=aXW;.rw[Af p];exact WM w g hm ht hv hk (AM.2 p) Bx (ĳ (n:=n) w (ge Ab) hm ht hv hk (AM.2 p))
  .rw[Ac p];have H:t.name=aX1:=by simp[bk,AR,D1,L8,c,d,q,p,false_or] at v;exact v
   exact WM w g hm ht hv hk (AM.2 H) Bx (vg (n:=n) w (ge Ab) hm ht hv hk (AM.2 H))
 rw[Ac v];by_cases A:t.name∈aS
 .rw[Af A];have key:∀w∈aS,w∈rbW\/w∈rpW:=Bf;obtain h|h:=key _ A
  .exact⟨bG w g hm ht hv hk h Bx (aRo (n:=n) w (ge Ab) hm ht hv hk h),rfl⟩
  .exact⟨bG w g hm ht hv hk h Bx (aRp (n:=n) w (ge Ab) hm ht hv hk h),rfl⟩
 rw[Ac A];by_cases SM:t.name∈Xq;.rw[Af SM];exact⟨bG w g hm ht hv hk SM Bx (aMl (n:=n) w (ge Ab) hm ht hv hk SM),rfl⟩
 rw[Ac SM];by_cases TO:t.name∈aT
 .rw[Af TO];refine⟨?_,rfl⟩;rw[BS.uM];by_cases c:t.name=[108,105];.rw[Af c];exact aRl (n:=n) w (ge Ab) hm ht hv hk (AM.2 c)
  .rw[Ac c];have d:t.name∈pX:=by simp[aT,pX,AR,D1,L8] at TO⊢;exact TO.resolve_left c
   exact aRm (n:=n) w (ge Ab) hm ht hv hk d
 rw[Ac TO];by_cases fq:t.name∈Uv;.rw[Af fq];exact⟨bG w g hm ht hv hk fq Bx (aMk (n:=n) w (ge Ab) hm ht hv hk fq),rfl⟩
 rw[Ac fq];by_cases ł:t.name∈Ta
 .rw[Af ł];refine⟨?_,rfl⟩;simp[Ta,AR,D1,L8] at ł;obtain e|e:=ł
  .have I:b.Nh t=b.QZ t:=by unfold BS.QZ BS.Nh;rw[Af e]
   rw[I];exact aHi (n:=n) w (ge Ab) hm ht hv hk (AM.2 e)
  .exact aHj (n:=n) w (ge Ab) hm ht hv hk (AM.2 e)
 rw[Ac ł];by_cases u:t.name=aXy;.rw[Af u];exact⟨cf (n:=n) w (ge Ab) hm ht hv hk (AM.2 u),rfl⟩
 rw[Ac u];by_cases s:t.name=aXX;.rw[Af s];exact⟨aHk (n:=n) w (ge Ab) hm ht hv hk (AM.2 s),rfl⟩
 rw[Ac s];by_cases r:t.name=aXw;.rw[Af r];exact⟨ı (n:=n) w (ge Ab) hm ht hv hk (AM.2 r),rfl⟩
 rw[Ac r];by_cases Ń:t.name=[97];.rw[Af Ń];exact⟨bG w g hm ht hv hk (AM.2 Ń) Bx (p_a (n:=n) w (ge Ab) hm ht hv hk (AM.2 Ń)),rfl⟩
 rw[Ac Ń];by_cases j:t.name=aXE;.rw[Af j];exact⟨bG w g hm ht hv hk (AM.2 j) Bx (aHm (n:=n) w (ge Ab) hm ht hv hk (AM.2 j)),rfl⟩
 rw[Ac j];by_cases i:t.name=aXA;.rw[Af i];exact⟨WM w g hm ht hv hk (AM.2 i) Bx (aCG (n:=n) w (ge Ab) hm ht hv hk (AM.2 i)),rfl⟩
 rw[Ac i];by_cases f:t.name=aXN;.rw[Af f];exact⟨WM w g hm ht hv hk (AM.2 f) Bx (Ĵ (n:=n) w (ge Ab) hm ht hv hk (AM.2 f)),rfl⟩
 rw[Ac f];have Xy:t.name∉cq:=by simp[cq,Ay,AR,D1,h0,E,D,C,z,y,x,B,v,A,SM,TO,fq,ł,u,s,r,Ń,j,i,f,Ag]
 have key:∀l∈vh++aCK++aMp,∀w∈l,w∈cq:=Bx;have G:∀l∈vh++aCK++aMp,t.name∉l:=λl hl hx=>Xy (key l hl _ hx);exact⟨cj w g hm ht hv hk (λl hl=>G l (Ay.2 (z1 (Ay.2 (z1 hl))))) (Ĳ w g hm ht hv hk (λl hl=>G l (Ay.2 (z1 (Ay.2 (zg hl))))) (aHn (n:=n) w (ge Ab) hm ht hv hk (λl hl=>G l (Ay.2 (zg hl))))),rfl⟩
end
def aMs(w:RB h bi b F)(g:Gz b (n+8*(4*(o+a+8)+10)+8*a+2000) o a)(hm:Nm b.a)(ht:t.Sm)(hv:AL t.Aj av)(hk:t.k=2):Ez h F 43 [zu (zw (bi,0)),zq (Co t av)] (zi (b.opens t).2) bi (b.opens t).1:=by
 have hl:zr t.name<9223372036854775807:=by have:=ht.name;omega
 by_cases c:t.name∈Ng
 .have e:b.opens t=b.Kh t:=by rw[BS.opens];rw[Af c]
  rw[e];let⟨h1,i,f,w1,d⟩:=aMb (n:=n) w g.ok (g.rm.le Ab) hm ht hv ⟨hk,c⟩;refine⟨_,_,?_,w1,d⟩;simp[Ad,Ò,abS,(Ab:¬t.k=5),(Ab:¬t.k=4),(Ab:¬t.k=6),AE hk,GY UD.len hl,UD.w,As c,f]
 .let⟨⟨h1,i,f,w1,d⟩,e⟩:=aRs (n:=n) w g hm ht hv hk c;rw[e];refine⟨_,_,?_,w1,d⟩;simp[Ad,Ò,abS,(Ab:¬t.k=5),(Ab:¬t.k=4),(Ab:¬t.k=6),AE hk,GY UD.len hl,UD.w,Al c,f]
end
end Go.Am
end
