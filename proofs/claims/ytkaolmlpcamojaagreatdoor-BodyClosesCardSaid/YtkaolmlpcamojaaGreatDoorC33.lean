/- Lemmas -/
import Derived.Test.YtkaolmlpcamojaaGreatDoorC31
set_option linter.all false
set_option maxRecDepth 100000
section
namespace Go.Am
open Go
section
variable{t:GD}{av:Aa}{h:Ah}
def aJs(r:Int):JM cx 276 [.int .u8 r] (.bool (decide (Za r))):=by
 rw[L0,Ģ];by_cases h1:r=9;.subst h1;simp[Za]
 by_cases h2:r=10;.subst h2;simp[Za]
 by_cases e:r=12;.subst e;simp[Za]
 by_cases d:r=13;.subst d;simp[Za]
 by_cases c:r=32;.subst c;simp[Za]
 have:¬Za r:=by unfold Za;omega
 simp[h1,h2,e,d,c,this]
def aOu(t:GD)(av:Aa)(h:Ah):BL cx 127 [.agg (C7 t av)] h (.bool (decide t.Kt)) h:=by
 rw[Ae,ø];by_cases d:t.k=5
 .by_cases h0:0<=t.r
  .by_cases h1:t.r<128
   .have e:IntKind.u8.wrap t.r=t.r:=by rw[IntKind.wrap_u8];omega
    have c:decide t.Kt=decide (Za t.r):=Dd.2 (by unfold GD.Kt;exact⟨λh=>h.2,λh=>⟨d,h⟩⟩);simp only[abS,C7,AQ d,h0,h1,Qt,e,(aJs t.r).B7 rfl rfl,c]
   .have c:decide t.Kt=false:=Ap λh=>by unfold GD.Kt Za at h;have h2:=h.2;omega
    simp only[abS,C7,AQ d,h0,h1,c]
  .have c:decide t.Kt=false:=Ap λh=>by unfold GD.Kt Za at h;have h2:=h.2;omega
   simp only[abS,C7,AQ d,h0,c]
 .have c:decide t.Kt=false:=Ap λh=>d h.1;simp only[abS,C7,d,c]
def aOv(t:GD)(av:Aa)(h:Ah):BL cx 126 [.agg (C7 t av)] h (.bool (decide ¬t.ok)) h:=by
 rw[Ae,ö];by_cases h1:t.k<1;.have e:decide (¬t.ok)=true:=As (by unfold GD.ok;omega);simp only[abS,C7,h1,e,Dz,DH]
 .by_cases h2:6<t.k;.have e:decide (¬t.ok)=true:=As (by unfold GD.ok;omega);simp only[abS,C7,h1,h2,e,Dz,DH]
  .have e:decide (¬t.ok)=false:=Ap λh=>h (by unfold GD.ok;omega);simp only[abS,C7,h1,h2,e,Dz,DH]
structure Wd(l:Ai)(ws:List Ai):Prop where
 len:l.length<9223372036854775806
 w:∀s,F0 l s=decide (s∈ws)
def Tx{l:Ai}{ws:List Ai}(h0:(decide (l.length<9223372036854775806))=true)(h1:Du [] l=ws)(h2:ws.all (λw=> !w.isEmpty&& !w.contains 32)=true):Wd l ws:=⟨J9 h0,λs=>D9 h1 h2⟩
def Tz{l:Ai}{ws:List Ai}(w:Wd l ws)(ht:t.name.length<=1000)(av:Aa)(h:Ah):BL cx 133 [.agg (C7 t av),.str l] h (.bool (decide (t.en ws))) h:=by
 rw[Ae,û];by_cases c:t.k=3
 .have e:decide (t.en ws)=decide (t.name∈ws):=by unfold GD.en;simp[c]
  simp only[abS,C7,AQ c,IL w.len (Ab:t.name.length<9223372036854775807),w.w,e]
 .have e:decide (t.en ws)=false:=by unfold GD.en;simp[c]
  simp only[abS,C7,c,e]
def aJt(nm:Ai)(h:Ah):BL cx 134 [.str nm] h (.agg (C7 (RY nm) .slnil)) h:=by rw[Ae,ü];simp only[abS,Nat.reduceLeDiff,↓reduceIte,AR,C7,RY];try rfl
end
section
variable{h h':Ah}{bi:Nat}{b b':BS}{F:Nat->Prop}{n o a:Nat}{t:GD}{av:Aa}
end
section
variable{h h':Ah}{bi:Nat}{b b':BS}{F:Nat->Prop}{n o a:Nat}{t:GD}{av:Aa}{nm:Ai}{ws:List Ai}
def zq(w:RB h bi b F)(g:Gz b (n+8*(4*(o+8)+10)) o a)(hm:Nm b.a)(nm:Ai):RZ h F 95 [.ptr (some (bi,0)),.str nm] (.tuple []) bi (b.Fz nm):=by obtain⟨d,e,c,tt,G,w,hc,rfl⟩:=w;obtain⟨h',o',c',G',r,w',Jm,x⟩:=aI4 (m:=n) w hc g.ok (g.rm.le (by have:=g.AN;omega)) hm nm;exact⟨h',_,r,⟨d,o',c',tt,G',w',Jm,rfl⟩,x⟩
def zr(w:RB h bi b F)(g:Gz b n o a)(nm:Ai):RZ h F 94 [.ptr (some (bi,0)),.str nm] (.tuple []) bi (b.CO nm):=by obtain⟨d,f,c,tt,G,w,hc,rfl⟩:=w;obtain⟨h',o',r,w',x⟩:=aEb w g.rm nm;exact⟨h',_,r,⟨d,o',c,tt,G,w',by have e:(b.CO nm).A6=b.A6:=(by unfold BS.CO;split;split<;>rfl;rfl);rw[e];exact hc,rfl⟩,x⟩
def mv(w:RB h bi b F)(g:Gz b (n+4*a) o a)(hm:Nm b.a):RZ h F 93 [.ptr (some (bi,0))] (.tuple []) bi b.CM:=by obtain⟨d,e,c,tt,G,w,hc,rfl⟩:=w;obtain⟨h',o',c',G',r,w',Jm,x⟩:=aI6 (m:=n) w hc g.ok (g.rm.le (by have:=g.A6;omega)) hm;exact⟨h',_,r,⟨d,o',c',tt,G',w',Jm,rfl⟩,x⟩
def aEw(w:RB h bi b F)(g:Gz b n o a):RZ h F 98 [.ptr (some (bi,0))] (.tuple []) bi b.Cx:=by obtain⟨d,e,c,tt,G,w,hc,rfl⟩:=w;obtain⟨h',o',c',t',r,w',Jm,x⟩:=aI3 w hc g.rm;exact⟨h',_,r,⟨d,o',c',t',G,w',Jm,rfl⟩,x⟩
def wJ(h:Nm b.a)(g:Gz b n o a):Nm b.CM.a:=Nm.Jn h λe he=>(g.rm.DE e (Bw he)).1
def aOw(w:RB h bi b F)(v:Bool):WrR h F bi 14 (.bool v) {b with fs:=v}:=by obtain⟨e,d,c,tt,G,w,hc,rfl⟩:=w;exact⟨w.st (k:=14) rfl rfl,⟨e,d,c,tt,G,w.put rfl rfl w.o w.t,hc,rfl⟩,Bg⟩
def aEx(w:RB h bi b F)(v:Int):WrR h F bi 8 (.int .i64 v) {b with Fk:=v}:=by obtain⟨e,d,c,tt,G,w,hc,rfl⟩:=w;exact⟨w.st (k:=8) rfl rfl,⟨e,d,c,tt,G,w.put rfl rfl w.o w.t,hc,rfl⟩,Bg⟩
def RB.l8(w:RB h bi b F):A8 h none (.ptr (some (bi,8)))=some (.int .i64 b.Fk)/\A8 h none (.ptr (some (bi,14)))=some (.bool b.fs):=by obtain⟨e,d,c,tt,G,w,hc,rfl⟩:=w;exact⟨w.ld 8,w.ld 14⟩
def RB.lo(w:RB h bi b F):∃v,A8 h none (.ptr (some (bi,2)))=some v/\BY b.AN v/\∀{u:Aa} {l:List Item},BY l u->∀t:Ah,WrR (h++t) F bi 2 u {b with AN:=l}/\DC h F (h++t) F:=by obtain⟨e,d,c,tt,G,w,hc,rfl⟩:=w;refine⟨d,w.ld 2,w.o,λ{u l} hu t=>?_⟩;have w1:=w.HJ (u:=t);exact⟨⟨w1.st (k:=2) (v0:=d) rfl (AU.cells hu),⟨e,u,c,tt,G,w1.HU hu,hc,rfl⟩,Bg⟩,w.C6⟩
def RB.lc(w:RB h bi b F)(g:Gz b n o a):∃v u,A8 h none (.ptr (some (bi,3)))=some v/\BL cx 102 [v] h u h/\WrR h F bi 3 u {b with A6:=EE b.A6}:=by obtain⟨e,d,c,tt,G,w,hc,rfl⟩:=w;have QE:=g.rm.A6;obtain⟨fs,Gu,Sx⟩:=hc;obtain⟨u,r2,hu⟩:=f84 (h:=h) Sx (by rw[<-Gu,An] at QE;omega);exact⟨c,u,w.l3,r2,w.st (k:=3) (v0:=c) rfl (AU.cells hu),⟨e,d,u,tt,G,w.Kr (u:=u) (l:=EE b.A6),⟨_,by rw[QJ,Gu],hu⟩,rfl⟩,Bg⟩
def Gz.nmB(g:Gz b n o a):∀i∈b.AN,i.name.length<9223372036854775807:=λi hi=>by have:=g.rm.VM i hi;omega
def mk1(nm:Ai):AD (.Dm 1) [.str nm]=some (.sl 1 ([nm].map Cr)):=DR (ws:=[nm]) rfl AH
def wK(w:RB h bi b F)(g:Gz b n o a)(s:Int)(nm:Ai):BL cx 290 [.ptr (some (bi,0)),.int .i64 s,.str nm] h (.bool (b.HD s (Bn [nm]))) h:=by obtain⟨v,d,hv,_⟩:=w.lo;have ho:=g.rm.AN;have c:=aDw (h:=h) hv Ab g.nmB s (Cc (ws:=[nm])) AH;rw[show b.HD s (Bn [nm])=HI (Bn [nm]) (Hw s) b.AN.reverse from rfl,Ae,ĩ];simp only[BD,d,mk1,c.Ac]
def aOx(w:RB h bi b F)(g:Gz b n o a):BL cx 286 [.ptr (some (bi,0))] h (.bool (decide b.eQ)) h:=by obtain⟨v,d,hv,_⟩:=w.lo;have ho:=g.rm.AN;have c:=Ō (h:=h) hv Ab AZ;rw[show decide b.eQ=decide (0<=AT (Bn [AZ]) b.AN) from rfl];rw[AZ] at c⊢;rw[Ae,Ĩ];simp only[BD,d,c.Ac]
def Ux(w:RB h bi b F)(g:Gz b n o a)(ex:Ai):RZ h F 294 [.ptr (some (bi,0)),.str ex] (.tuple []) bi {b with AN:=Dq (C2 ex) Cu b.AN}:=by
 obtain⟨v,i,hv,wr⟩:=w.lo;have ho:=g.rm.AN;obtain⟨u,t,f,hu⟩:=f165 (h:=h) hv Ab g.nmB ex false;have HN:EA ex false=C2 ex:=by funext a;rfl
 rw[HN] at hu;obtain⟨⟨e,w1,c⟩,d⟩:=wr hu t;refine⟨_,_,?_,w1,d.trans c⟩;rw[Ae,Ĭ];simp only[BD,i,f.Ac,e]
def ż(w:RB h bi b F)(g:Gz b n o a)(nm:Ai):RZ h F 384 [.ptr (some (bi,0)),.str nm] (.tuple []) bi {b with AN:=Dq Cu (Bn [nm]) b.AN}:=by obtain⟨v,i,hv,wr⟩:=w.lo;have ho:=g.rm.AN;obtain⟨u,t,f,hu⟩:=f85 (h:=h) hv Ab (Cc (ws:=[nm])) AH;rw[<-KR] at hu;obtain⟨⟨e,w1,c⟩,d⟩:=wr hu t;refine⟨_,_,?_,w1,d.trans c⟩;rw[Ae,ł];simp only[BD,i,mk1,f.Ac,e]
def MG(w:RB h bi b F)(g:Gz b n o a)(nm ex:Ai):RZ h F 291 [.ptr (some (bi,0)),.str nm,.str ex] (.tuple []) bi (b.Hc nm ex):=by obtain⟨h1,i,f,w1,d⟩:=Ux w g ex;obtain⟨h2,F2,r2,e,c⟩:=ż w1 (g.LM CT) nm;refine⟨_,_,?_,e,d.trans c⟩;rw[Ae,Ī];simp only[BD,f.Ac,r2.Ac]
def aEy(w:RB h bi b F)(g:Gz b (n+4) o a)(hm:Nm b.a)(ht:t.Sm)(hv:Bt t.Ay av):RZ h F 135 [.ptr (some (bi,0)),.agg (C7 t av)] (.tuple []) bi (b.MD t):=by obtain⟨h1,i,c,w1,e⟩:=aBu w g hm ht hv;have g1:Gz (b.Ns t) n (o+1) a:=g.L8 ht.Ay ht.name;obtain⟨h2,F2,r2,f,d⟩:=aJj w1 g1;have hc:av.cells=[av]:=AU.cells hv;refine⟨_,_,?_,f,e.trans d⟩;simp only[C7] at c;rw[Ae,ý];simp only[abS,Nat.reduceLeDiff,↓reduceIte,C7,hc,c.Ac,r2.Ac]
end
def qI:List Ai:=[[97,100,100,114,101,115,115],[97,114,116,105,99,108,101],[97,115,105,100,101],aVh,[99,101,110,116,101,114],[100,101,116,97,105,108,115],[100,105,97,108,111,103],[100,105,114],[100,105,118],[100,108],aVm,aVi,[102,105,103,117,114,101],[102,111,111,116,101,114],[104,101,97,100,101,114],[104,103,114,111,117,112],[109,97,105,110],[109,101,110,117],[110,97,118],[111,108],[115,101,97,114,99,104],[115,101,99,116,105,111,110],[115,117,109,109,97,114,121],[117,108]]
def bLP:List Ai:=[aUx,[108,105,115,116,105,110,103],[112,114,101]]
def anW:List Ai:=[[97],aVo]
def aJv:Wd aVl [aUo,aUi]:=Tx AM C4 C4
def aEz:Wd aUf qI:=Tx C4 C4 C4
def aEA:Wd aU5 bLP:=Tx AM C4 C4
def Ž:Wd aUy [aUy]:=Tx AM C4 C4
def aOy:Wd [112] [[112]]:=Tx AM C4 C4
def aJw:Wd [108,105] [[108,105]]:=Tx AM C4 C4
def aJx:Wd aVr wDD:=Tx AM C4 C4
def aJy:Wd aUp DP:=Tx AM C4 C4
def aEB:Wd aUl mj:=Tx AM C4 C4
def aJz:Wd [97,32,110,111,98,114] anW:=Tx AM C4 C4
def aEC:Wd aUr ZS:=Tx AM C4 C4
def aJA:Wd [98,114] [[98,114]]:=Tx AM C4 C4
def mw:∀w∈OR,w∈qI\/w∈bLP:=C4
def cE:∀w,w∈qI\/w∈bLP->w∈OR:=by have h1:∀w∈qI,w∈OR:=C4;have h2:∀w∈bLP,w∈OR:=C4;exact λw h=>h.elim (h1 w) (h2 w)
def ž:∀w∈Tq,w∈mj\/w∈anW:=C4
def eo:∀w,w∈mj\/w∈anW->w∈Tq:=by have h1:∀w∈mj,w∈Tq:=C4;have h2:∀w∈anW,w∈Tq:=C4;exact λw h=>h.elim (h1 w) (h2 w)
section
variable{h h':Ah}{bi:Nat}{b b':BS}{F:Nat->Prop}{n o a:Nat}{t:GD}{av:Aa}{nm:Ai}{ws:List Ai}
def en3(hk:t.k=3):decide (t.en ws)=decide (t.name∈ws):=by unfold GD.en;simp[hk]
def qJ{L:List (List Ai)}{s:Ai}{X:List Ai}(hs:s∈X)(h:(X.all λw=>L.all λl=>decide (w∉l))=true):∀l∈L,s∉l:=λl hl=>J9 (Db.1 (Db.1 h s hs) l hl)
def aOz(w:RB h bi b F)(g:Gz b (n+8*(4*(o+a+8)+10)+8*a+2000) o a)(hm:Nm b.a)(ht:t.Sm)(hv:Bt t.Ay av)(hk:t.k=3)(h0:t.name≠AZ):RZ h F 141 [.ptr (some (bi,0)),.agg (C7 t av)] (.bool (b.Iq t).2) bi (b.Iq t).1:=by
 have ge:∀{m},m<=n+8*(4*(o+a+8)+10)+8*a+2000->Gz b m o a:=λh=>g.dn h;have hc:av.cells=[av]:=AU.cells hv;have f:=Tz (t:=t) aJv ht.name av h;have d:=Tz (t:=t) aEz ht.name av h;have i:=Tz (t:=t) aEA ht.name av h;have j:=Tz (t:=t) Ž ht.name av h;have q:=Tz (t:=t) aOy ht.name av h;have r:=Tz (t:=t) aJw ht.name av h;have u:=Tz (t:=t) aJx ht.name av h;have x:=Tz (t:=t) aJy ht.name av h;have A:=Tz (t:=t) aEB ht.name av h;have lD:=Tz (t:=t) aJz ht.name av h;have qC:=Tz (t:=t) aEC ht.name av h;have du:=Tz (t:=t) aJA ht.name av h;rw[en3 hk] at f d i j q r u x A lD qC du;simp only[C7,hk,BG] at f d i j q r u x A lD qC du;unfold BS.Iq;rw[Ad h0];by_cases Z:t.name∈[aUo,aUi]
 .have M:t.name∈Qb:=by have key:∀w∈[aUo,aUi],w∈Qb:=AM;exact key _ Z
  rw[Af M];rw[As Z] at f;have c:=wK w (ge (m:=0) Ab) 1 aUo;unfold BS.QN;have E:b.has [aUo]=b.HD 1 (Bn [aUo]):=rfl;rw[E];cases hs:b.HD 1 (Bn [aUo]) with
  |false=>rw[hs] at c;rw[Ad AH];refine⟨_,_,?_,w,.refl⟩;rw[Ae,Fs];simp only[abS,Nat.reduceLeDiff,↓reduceIte,C7,hk,hc,f.Ac,c.Ac]
  |true=>rw[hs] at c;rw[Af rfl];obtain⟨s2,p,l⟩:=aEk w 19;refine⟨_,_,?_,p,l⟩;rw[Ae,Fs];simp only[abS,Nat.reduceLeDiff,↓reduceIte,C7,hk,hc,f.Ac,c.Ac,s2]
 have M:t.name∉Qb:=λh=>Z (by have key:∀w∈Qb,w∈[aUo,aUi]:=AM;exact key _ h)
 rw[Ad M];rw[Ap Z] at f;by_cases W:t.name∈OR
 .rw[Af W];have c:=wK w (ge (m:=0) Ab) 1 t.name;have Q:(decide (t.name∈qI)=true)\/(decide (t.name∈qI)=false/\decide (t.name∈bLP)=true):=by
   rcases mw _ W with h|h
   .exact .inl (As h)
   .cases hd:decide (t.name∈qI);.exact .inr ⟨rfl,As h⟩
    .exact .inl rfl
  unfold BS.IN;have E:b.has [t.name]=b.HD 1 (Bn [t.name]):=rfl;rw[E];cases hs:b.HD 1 (Bn [t.name]) with
  |false=>
   rw[hs] at c;rw[Ad AH];refine⟨_,_,?_,w,.refl⟩;rw[Ae,Fs];rcases Q with e|⟨e,e'⟩
   .rw[e] at d;simp only[abS,Nat.reduceLeDiff,↓reduceIte,C7,hk,hc,f.Ac,d.Ac,c.Ac]
   .rw[e] at d;rw[e'] at i;simp only[abS,Nat.reduceLeDiff,↓reduceIte,C7,hk,hc,f.Ac,d.Ac,i.Ac,c.Ac]
  |true=>
   rw[hs] at c;rw[Af rfl];obtain⟨h2,F2,r2,p,l⟩:=MG w (ge (m:=0) Ab) t.name [];refine⟨_,_,?_,p,l⟩;rw[Ae,Fs];rcases Q with e|⟨e,e'⟩
   .rw[e] at d;simp only[abS,Nat.reduceLeDiff,↓reduceIte,C7,hk,hc,f.Ac,d.Ac,c.Ac,r2.Ac]
   .rw[e] at d;rw[e'] at i;simp only[abS,Nat.reduceLeDiff,↓reduceIte,C7,hk,hc,f.Ac,d.Ac,i.Ac,c.Ac,r2.Ac]
 rw[Ad W];have c2a:t.name∉qI:=λh=>W (cE _ (.inl h));have c2b:t.name∉bLP:=λh=>W (cE _ (.inr h));rw[Ap c2a] at d;rw[Ap c2b] at i;by_cases D:t.name=aUy
 .have s:=qJ (L:=[Tq,DP,ZS,Qc]) (X:=[aUy]) (BG.2 D) C4;rw[Ad (s _ AH),Ad (s _ AH),Ad (s _ AH),Ad (s _ AH),Af D];rw[As D] at j;have H:=aOx w (ge (m:=0) Ab);unfold BS.Tr;by_cases Y:b.eQ
  .rw[As Y] at H;rw[Af Y];unfold BS.IN;rw[D];have c:=wK w (ge (m:=0) Ab) 1 aUy;have E:b.has [aUy]=b.HD 1 (Bn [aUy]):=rfl;rw[E];cases hs:b.HD 1 (Bn [aUy]) with
   |false=>rw[hs] at c;rw[Ad AH];refine⟨_,_,?_,w,.refl⟩;rw[D] at f d i j;rw[Ae,Fs];simp only[abS,Nat.reduceLeDiff,↓reduceIte,C7,hk,hc,D,f.Ac,d.Ac,i.Ac,j.Ac,H.Ac,c.Ac]
   |true=>rw[hs] at c;rw[Af rfl];obtain⟨h2,F2,r2,p,l⟩:=MG w (ge (m:=0) Ab) aUy [];refine⟨_,_,?_,p,l⟩;rw[D] at f d i j;rw[Ae,Fs];simp only[abS,Nat.reduceLeDiff,↓reduceIte,C7,hk,hc,D,f.Ac,d.Ac,i.Ac,j.Ac,H.Ac,c.Ac,r2.Ac]
  .rw[Ap Y] at H;rw[Ad Y];have l8:=w.l8.1;obtain⟨s1,w1,x1⟩:=aEx w 0;have g1:Gz {b with Fk:=0} 0 o a:=(ge (m:=0) Ab).eq rfl rfl rfl rfl rfl;obtain⟨v,R,J,wr⟩:=w1.lo;have ho:=g1.rm.AN;have C:=aG1 (h:=put h bi 8 (I 0)) J Ab g1.nmB 1 b.Fk;have es:b.HD 1 (Br b.Fk)=HI (Br b.Fk) (Hw 1) b.AN.reverse:=rfl;by_cases N:b.Fk≠0/\b.HD 1 (Br b.Fk)=true;.rw[Af N];rw[es] at N;rw[show HI (Br b.Fk) (Hw 1) ({b with Fk:=0}:BS).AN.reverse=true from N.2] at C;obtain⟨h4,F4,r4,w4,x4⟩:=Ux w1 g1 [];obtain⟨v5,l5,K,G⟩:=w4.lo;obtain⟨u6,t6,r6,H_⟩:=aG7 (h:=h4) K (by have:=(g1.LM (lo:=Dq (C2 []) Cu b.AN) CT).rm.AN;have e:({b with Fk:=0,AN:=Dq (C2 []) Cu b.AN}:BS).AN=Dq (C2 []) Cu b.AN:=rfl;simp only at this⊢;omega) b.Fk;obtain⟨⟨s7,w7,x7⟩,x6⟩:=G H_ t6;refine⟨_,_,?_,w7,((x1.trans x4).trans x6).trans x7⟩;rw[Ae,Fs];simp only[abS,Nat.reduceLeDiff,↓reduceIte,C7,hk,hc,f.Ac,d.Ac,i.Ac,j.Ac,H.Ac,l8,s1,N.1,BW,R,C.Ac,r4.Ac,l5,r6.Ac,s7]
   .rw[Ad N];refine⟨_,_,?_,w1,x1⟩;rw[Ae,Fs];by_cases z:b.Fk=0;.simp only[abS,Nat.reduceLeDiff,↓reduceIte,C7,hk,hc,f.Ac,d.Ac,i.Ac,j.Ac,H.Ac,l8,s1,z,BW,Cy]
    .have e:HI (Br b.Fk) (Hw 1) b.AN.reverse=false:=by
      cases hs:HI (Br b.Fk) (Hw 1) b.AN.reverse;.rfl
      .exact absurd ⟨z,hs⟩ N
     rw[show HI (Br b.Fk) (Hw 1) ({b with Fk:=0}:BS).AN.reverse=false from e] at C;simp only[abS,Nat.reduceLeDiff,↓reduceIte,C7,hk,hc,f.Ac,d.Ac,i.Ac,j.Ac,H.Ac,l8,s1,z,BW,R,C.Ac]
 rw[Ap D] at j;by_cases y:t.name=[112]
 .have s:=qJ (L:=[Tq,DP,ZS]) (X:=[[112]]) (BG.2 y) C4;have c5':t.name∈Qc:=by rw[y];decide
  rw[Ad (s _ AH),Ad (s _ AH),Ad (s _ AH),Af c5'];rw[As y] at q;unfold BS.Lg;rw[y,Af rfl];have c:=wK w (ge (m:=0) Ab) 3 [112];cases hs:b.HD 3 (Bn [[112]]) with
  |true=>rw[hs] at c;rw[Af rfl];obtain⟨h2,F2,r2,p,l⟩:=MG w (ge (m:=0) Ab) [112] [112];refine⟨_,_,?_,p,l⟩;rw[y] at f d i j q;rw[Ae,Fs];simp only[abS,Nat.reduceLeDiff,↓reduceIte,C7,hk,hc,y,f.Ac,d.Ac,i.Ac,j.Ac,q.Ac,c.Ac,r2.Ac]
  |false=>rw[hs] at c;rw[Ad AH,Af rfl];have I_:=aJt [112] h;obtain⟨h2,F2,r2,p,l⟩:=aBu (t:=RY [112]) (av:= .slnil) w (ge (m:=0+4) Ab) hm (L5 AM) (.inr ⟨rfl,rfl⟩);have g2:Gz (b.Ns (RY [112])) 0 (o+1) a:=(ge (m:=0+4) Ab).L8 (L5 (nm:=[112]) AM).Ay AM;obtain⟨h3,F3,C,P,O⟩:=MG p g2 [112] [112];refine⟨_,_,?_,P,l.trans O⟩;rw[y] at f d i j q;rw[Ae,Fs];simp only[abS,Nat.reduceLeDiff,↓reduceIte,C7,hk,hc,y,f.Ac,d.Ac,i.Ac,j.Ac,q.Ac,c.Ac,I_.Ac,r2.Ac,C.Ac]
 rw[Ap y] at q;by_cases B:t.name=[108,105]
 .have s:=qJ (L:=[Tq,DP,ZS]) (X:=[[108,105]]) (BG.2 B) C4;have c6':t.name∈Qc:=by rw[B];decide
  rw[Ad (s _ AH),Ad (s _ AH),Ad (s _ AH),Af c6'];rw[As B] at r;unfold BS.Lg;rw[B];simp only[(AM:¬([108,105]:Ai)=[112]),DQ,Cy,BN];have c:=wK w (ge (m:=0) Ab) 2 [108,105];cases hs:b.HD 2 (Bn [[108,105]]) with
  |true=>rw[hs] at c;rw[Af rfl];obtain⟨h2,F2,r2,p,l⟩:=MG w (ge (m:=0) Ab) [108,105] [108,105];refine⟨_,_,?_,p,l⟩;rw[B] at f d i j q r;rw[Ae,Fs];simp only[abS,Nat.reduceLeDiff,↓reduceIte,C7,hk,hc,B,f.Ac,d.Ac,i.Ac,j.Ac,q.Ac,r.Ac,c.Ac,r2.Ac]
  |false=>rw[hs] at c;rw[Ad AH];refine⟨_,_,?_,w,.refl⟩;rw[B] at f d i j q r;rw[Ae,Fs];simp only[abS,Nat.reduceLeDiff,↓reduceIte,C7,hk,hc,B,f.Ac,d.Ac,i.Ac,j.Ac,q.Ac,r.Ac,c.Ac]
 rw[Ap B] at r;by_cases V:t.name∈wDD
 .have s:=qJ (L:=[Tq,DP,ZS]) V C4;have c7':t.name∈Qc:=by have key:∀w∈wDD,w∈Qc:=AM;exact key _ V
  rw[Ad (s _ AH),Ad (s _ AH),Ad (s _ AH),Af c7'];rw[As V] at u;unfold BS.Lg;rw[Ad y,Ad B,Ad y];have c:=wK w (ge (m:=0) Ab) 1 t.name;dsimp only;cases hs:b.HD 1 (Bn [t.name]) with
  |true=>rw[hs] at c;rw[Af rfl];obtain⟨h2,F2,r2,p,l⟩:=MG w (ge (m:=0) Ab) t.name t.name;refine⟨_,_,?_,p,l⟩;rw[Ae,Fs];simp only[abS,Nat.reduceLeDiff,↓reduceIte,C7,hk,hc,f.Ac,d.Ac,i.Ac,j.Ac,q.Ac,r.Ac,u.Ac,c.Ac,r2.Ac]
  |false=>rw[hs] at c;rw[Ad AH];refine⟨_,_,?_,w,.refl⟩;rw[Ae,Fs];simp only[abS,Nat.reduceLeDiff,↓reduceIte,C7,hk,hc,f.Ac,d.Ac,i.Ac,j.Ac,q.Ac,r.Ac,u.Ac,c.Ac]
 rw[Ap V] at u;have c57:t.name∉Qc:=λh=>by
  have key:∀w∈Qc,w=[112]\/w=[108,105]\/w∈wDD:=AM;rcases key _ h with h|h|h
  .exact y h
  .exact B h
  .exact V h
 by_cases U:t.name∈DP
 .have s:=qJ (L:=[Tq]) U C4;rw[Ad (s _ AH),Af U];rw[As U] at x;obtain⟨v,R,J,_⟩:=w.lo;have ho:=g.rm.AN;have em:AD (.Dm 1) [S [104,49],S [104,50],S [104,51],S [104,52],S [104,53],S [104,54]]=some (.sl 1 (DP.map Cr)):=DR (ws:=DP) rfl AM;have c:=aDw (h:=h) J Ab g.nmB 1 (Cc (ws:=DP)) AM;unfold BS.MF;have E:b.has DP=HI (Bn DP) (Hw 1) b.AN.reverse:=rfl;rw[E];cases hs:HI (Bn DP) (Hw 1) b.AN.reverse with
  |false=>rw[hs] at c;rw[Ad AH];refine⟨_,_,?_,w,.refl⟩;rw[Ae,Fs];simp only[abS,Nat.reduceLeDiff,↓reduceIte,C7,hk,hc,f.Ac,d.Ac,i.Ac,j.Ac,q.Ac,r.Ac,u.Ac,x.Ac,em,R,c.Ac]
  |true=>rw[hs] at c;rw[Af rfl];obtain⟨h2,F2,r2,p,l⟩:=Ux w (ge (m:=0) Ab) [];obtain⟨v5,l5,K,G⟩:=p.lo;obtain⟨u6,t6,r6,H_⟩:=f85 (h:=h2) K (by have:=((ge (m:=0) Ab).LM (lo:=Dq (C2 []) Cu b.AN) CT).rm.AN;omega) (Cc (ws:=DP)) AM;rw[<-KR] at H_;obtain⟨⟨s7,w7,x7⟩,x6⟩:=G H_ t6;refine⟨_,_,?_,w7,(l.trans x6).trans x7⟩;rw[Ae,Fs];simp only[abS,Nat.reduceLeDiff,↓reduceIte,C7,hk,hc,f.Ac,d.Ac,i.Ac,j.Ac,q.Ac,r.Ac,u.Ac,x.Ac,em,R,c.Ac,r2.Ac,l5,r6.Ac,s7]
 rw[Ap U] at x;by_cases T:t.name∈Tq
 .rw[Af T];obtain⟨h2,F2,r2,p,l⟩:=zq (n:=n) w (ge Ab) hm t.name;refine⟨_,_,?_,p,l⟩;rw[Ae,Fs];rcases ž _ T with e|e
  .rw[As e] at A;simp only[abS,Nat.reduceLeDiff,↓reduceIte,C7,hk,hc,f.Ac,d.Ac,i.Ac,j.Ac,q.Ac,r.Ac,u.Ac,x.Ac,A.Ac,r2.Ac]
  .rw[As e] at lD;cases hd:decide (t.name∈mj)<;>rw[hd] at A<;>simp only[abS,Nat.reduceLeDiff,↓reduceIte,C7,hk,hc,f.Ac,d.Ac,i.Ac,j.Ac,q.Ac,r.Ac,u.Ac,x.Ac,A.Ac,lD.Ac,r2.Ac]
 rw[Ad T,Ad U];have c9a:t.name∉mj:=λh=>T (eo _ (.inl h));have c9b:t.name∉anW:=λh=>T (eo _ (.inr h));rw[Ap c9a] at A;rw[Ap c9b] at lD;by_cases TK:t.name∈ZS
 .rw[Af TK];rw[As TK] at qC;have c:=wK w (ge (m:=0) Ab) 1 t.name;unfold BS.N6;have E:b.has [t.name]=b.HD 1 (Bn [t.name]):=rfl;rw[E];cases hs:b.HD 1 (Bn [t.name]) with
  |false=>rw[hs] at c;rw[Ad AH];refine⟨_,_,?_,w,.refl⟩;rw[Ae,Fs];simp only[abS,Nat.reduceLeDiff,↓reduceIte,C7,hk,hc,f.Ac,d.Ac,i.Ac,j.Ac,q.Ac,r.Ac,u.Ac,x.Ac,A.Ac,lD.Ac,qC.Ac,c.Ac]
  |true=>rw[hs] at c;rw[Af rfl];have g0:Gz b 0 o a:=ge Ab;obtain⟨h2,F2,r2,p,l⟩:=MG w g0 t.name [];obtain⟨v3,u3,l3,C,s3,P,O⟩:=p.lc g0.Hc;refine⟨_,_,?_,P,l.trans O⟩;rw[Ae,Fs];simp only[abS,Nat.reduceLeDiff,↓reduceIte,C7,hk,hc,f.Ac,d.Ac,i.Ac,j.Ac,q.Ac,r.Ac,u.Ac,x.Ac,A.Ac,lD.Ac,qC.Ac,c.Ac,r2.Ac,l3,C.Ac,s3]
 rw[Ad TK,Ad c57,Ad D];rw[Ap TK] at qC;by_cases ij:t.name=[98,114]
 .rw[Af ij];rw[As ij] at du;have I_:=λh=>aJt [98,114] h;have eb:b.empty (RY [98,114])={b.CM.MD (RY [98,114]) with fs:=false}:=by unfold BS.empty;rw[Ad AM,Ad AM,Ad AM];rfl
  rw[eb];obtain⟨h2,F2,r2,p,l⟩:=mv (n:=n+4) w (ge Ab) hm;have g2:Gz b.CM (n+4) (o+a) a:=Gz.CM (ge Ab);obtain⟨h3,F3,C,P,O⟩:=aEy (t:=RY [98,114]) (av:= .slnil) p g2 (wJ hm g) (L5 AM) (.inr ⟨rfl,rfl⟩);obtain⟨s4,w4,x4⟩:=aOw P false;refine⟨_,_,?_,w4,(l.trans O).trans x4⟩;rw[Ae,Fs];simp only[abS,Nat.reduceLeDiff,↓reduceIte,C7,hk,hc,f.Ac,d.Ac,i.Ac,j.Ac,q.Ac,r.Ac,u.Ac,x.Ac,A.Ac,lD.Ac,qC.Ac,du.Ac,r2.Ac,(I_ _).Ac,C.Ac,s4]
 rw[Ad ij];rw[Ap ij] at du;obtain⟨h2,F2,r2,p,l⟩:=zr w (ge (m:=0) Ab) t.name;refine⟨_,_,?_,p,l⟩;rw[Ae,Fs];simp only[abS,Nat.reduceLeDiff,↓reduceIte,C7,hk,hc,f.Ac,d.Ac,i.Ac,j.Ac,q.Ac,r.Ac,u.Ac,x.Ac,A.Ac,lD.Ac,qC.Ac,du.Ac,r2.Ac]
def ſ:Wd aUv [aUv]:=Tx AM C4 C4
def qK:Wd aUd [aUd]:=Tx AM C4 C4
def aJB(hk:t.k=3)(l:Ai)(av:Aa)(h:Ah):BL cx 132 [.agg (C7 t av),.str l] h ff h:=by rw[Ae,ú];simp only[abS,C7,hk,(Ab:¬(3:Int)=2)]
def aJC(w:RB h bi b F)(g:Gz b n o a)(ht:t.Sm)(hv:Bt t.Ay av)(hk:t.k=3)(hn:t.name=AZ):RZ h F 41 [.ptr (some (bi,0)),.agg (C7 t av)] ff bi b.Cx:=by have hc:av.cells=[av]:=AU.cells hv;have f:=aOv t av h;rw[Ap (show¬¬t.ok by unfold GD.ok;omega)] at f;have e:=aOu t av h;rw[Ap (show¬t.Kt by unfold GD.Kt;omega)] at e;have i:=λl=>aJB (t:=t) hk l av h;have d:=Tz (t:=t) ſ ht.name av h;rw[Ap (show¬t.en [aUv] by intro h;have:=h.2;rw[hn] at this;revert this;decide)] at d;have c:=Tz (t:=t) qK ht.name av h;rw[As (show t.en [aUd] from⟨hk,by rw[hn];decide⟩)] at c;obtain⟨h2,F2,r2,m,j⟩:=aEw w g;refine⟨_,_,?_,m,j⟩;simp only[C7,hk] at f e i d c;rw[Ae,aC2];simp only[abS,Nat.reduceLeDiff,↓reduceIte,C7,hk,hc,f.Ac,e.Ac,(i _).Ac,d.Ac,c.Ac,r2.Ac,(Ab:¬(3:Int)=1),(Ab:¬(3:Int)=4)]
def aJD(w:RB h bi b F)(g:Gz b (n+8*(4*(o+a+8)+10)+8*a+2000) o a)(hm:Nm b.a)(ht:t.Sm)(hv:Bt t.Ay av)(hk:t.k=3):RZ h F 44 [.ptr (some (bi,0)),.agg (C7 t av)] (.bool (b.Iq t).2) bi (b.Iq t).1:=by
 have hc:av.cells=[av]:=AU.cells hv;by_cases hn:t.name=AZ
 .have e:b.Iq t=(b.Cx,false):=by
   unfold BS.Iq;rw[Af hn];unfold BS.ME;have c:∀ws,¬t.st ws:=λws h=>by have:=h.1;omega
   rw[Ad (show¬¬t.ok by unfold GD.ok;omega),Ad Ab,Ad (c _),Ad (show¬t.odd df from λh=>h.2 (by rw[hn];decide)),Ad (show¬t.Kt by unfold GD.Kt;omega),Ad Ab,Ad (c _),Ad (c _),Ad (c _),Ad (c _),Ad (c _),Ad (c _),
    Ad (show¬t.en [aUv] by intro h;have:=h.2;rw[hn] at this;revert this;decide),Ad (c _),Af (show t.en [AZ] from⟨hk,by rw[hn];decide⟩)]
  rw[e];obtain⟨h2,F2,r2,f,d⟩:=aJC w (g.dn (n':=0) Ab) ht hv hk hn;refine⟨_,_,?_,f,d⟩;simp only[C7,hk,hn,AZ] at r2;rw[Ae,vw];simp only[abS,Nat.reduceLeDiff,↓reduceIte,C7,hk,hc,hn,AZ,r2.Ac,(Ab:¬(3:Int)=5),(Ab:¬(3:Int)=4),(Ab:¬(3:Int)=6),(Ab:¬(3:Int)=2)]
 .obtain⟨h2,F2,r2,f,d⟩:=aOz (n:=n) w g hm ht hv hk hn;have kh:¬t.name=aUd:=hn;refine⟨_,_,?_,f,d⟩;simp only[C7,hk] at r2;rw[Ae,vw];simp only[abS,Nat.reduceLeDiff,↓reduceIte,C7,hk,hc,kh,r2.Ac,(Ab:¬(3:Int)=5),(Ab:¬(3:Int)=4),(Ab:¬(3:Int)=6),(Ab:¬(3:Int)=2)]
end
end Go.Am
end
section
end
