/- Lemmas -/
import Derived.Test.YtjjnhgoknielgaaGreatDoorZ28
set_option linter.all false
set_option maxRecDepth 100000
section
namespace Go.Am
open Go
structure SW(h:Ai)(bi:Nat)(b:BS)(F:Nat->Prop)(si:Nat)(t:DF)(av:Aa):Prop where
 pb:PB h bi b F
 sc:h[si]?=some (.cells (.ptr (some (bi,0))::CE t av))
 no:¬F si
section
variable{h h':Ai}{bi si:Nat}{b b':BS}{F F':Nat->Prop}{n o a:Nat}{t:DF}{av:Aa}
def SW.after(w:SW h bi b F si t av)(p:PB h' bi b' F')(x:Fo h F h' F'):SW h' bi b' F' si t av:=by
 have hl:=(Aj.1 w.sc).1;refine⟨p,by rw[x.old si hl w.no];exact w.sc,λhf=>?_⟩;rcases x.BT si hf with h1|h1
 .exact w.no h1
 .omega
def SW.Ci(w:SW h bi b F si t av):Bn h none (.ptr (some (si,0)))=some (.ptr (some (bi,0)))/\Bn h (some 12) (.ptr (some (si,1)))=some (.agg (CE t av))/\Bn h none (.ptr (some (si,2)))=some (.str t.name)/\Bn h none (.ptr (some (si,12)))=some (.int .i32 t.r)/\Bn h none (.ptr (some (si,10)))=some (.bool t.sc)/\Bn h none (.ptr (some (bi,1)))=some (.int .i64 b.BM)/\Bn h none (.ptr (some (bi,4)))=some (.int .i64 b.mode)/\Bn h none (.ptr (some (bi,5)))=some (.int .i64 b.IE)/\Bn h none (.ptr (some (bi,7)))=some (.int .i64 b.head)/\Bn h none (.ptr (some (bi,8)))=some (.int .i64 b.GO)/\Bn h none (.ptr (some (bi,14)))=some (.bool b.fs)/\Bn h none (.ptr (some (bi,18)))=some (.int .i64 b.sw)/\Bn h none (.ptr (some (bi,19)))=some (.bool b.stop):=by refine⟨by simp only[Bn,w.sc];rfl,by simp only[Bn,w.sc];rfl,by simp only[Bn,w.sc];rfl,by simp only[Bn,w.sc];rfl,by simp only[Bn,w.sc];rfl,w.pb.Ci⟩
def pH{s:Ah}:AH (.CC 1) [.str s]=some (.sl 1 ([s].map Cv)):=Fh (ws:=[s]) rfl AB
def T8(w:SW h bi b F si t av)(g:Gz b n o a)(s:Ah):Cy cx 206 [.ptr (some (si,0)),.str s] h (.bool (b.has [s])) h:=by have l0:=w.Ci;have c:=T5 w.pb g 1 (Dg (ws:=[s])) AB;rw[Ag,bm,aE0];simp only[abS,l0,pH,c.Ae];rfl
def j3(w:SW h bi b F si t av)(g:Gz b n o a)(s ex:Ah):Gc h F 207 [.ptr (some (si,0)),.str s,.str ex] (.tuple []) bi (b.Ds s ex):=by have l0:=w.Ci;obtain⟨_,h1,l,j,f,d⟩:=MV w.pb g ex;have w1:=w.after f d;have l1:=w1.Ci;obtain⟨_,h2,k,r2,e,c⟩:=jX f (g.Ky Dd) (Dg (ws:=[s])) AB;have i:=w1.after e c;have l2:=i.Ci;refine⟨_,_,?_,e,d.trans c⟩;rw[Ag,bn,aE1];simp only[abS,l0,j.Ae,l1,r2.Ae,pH]
def Đ(w:SW h bi b F si t av)(g:Gz b (n+4) o a)(ht:t.Sm)(hv:Bw t.As av):Gc h F 131 [.ptr (some (si,0))] (.tuple []) bi (b.block t):=by have l0:=w.Ci;obtain⟨h1,l,j,f,d⟩:=JW w.pb g;have w1:=w.after f d;have l1:=w1.Ci;obtain⟨h2,k,r2,e,c⟩:=Fp f g.B4 ht hv;have i:=w1.after e c;have l2:=i.Ci;refine⟨_,_,?_,e,d.trans c⟩;rw[Ag,zL,aEo];simp only[abS,l0,j.Ae,l1,r2.Ae]
def aPo(s:Ah):Oz cx 203 [.str s] (.bool (decide (s∈Dc))):=by
 rw[Tv,bj,aEX];match s with
 |[]=>simp[Dc]
 |[a]=>simp[Dc]
 |[a,b]=>
  have e:decide ([a,b]∈Dc)=decide (a.toNat=104/\49<=b.toNat/\b.toNat<=54):=by simp only[Dc,AE,Ej,Ml,Cs,Jh,<-UInt8.toNat_inj];have f:UInt8.toNat 104=104/\UInt8.toNat 49=49/\UInt8.toNat 50=50/\UInt8.toNat 51=51/\UInt8.toNat 52=52/\UInt8.toNat 53=53/\UInt8.toNat 54=54:=AA;simp only[f];rw[EF];omega
  rw[e];have i1:((a.toNat:Int)=104)↔a.toNat=104:=Ab;have d:((49:Int)<=b.toNat)↔49<=b.toNat:=Ab;have i3:((b.toNat:Int)<=54)↔b.toNat<=54:=Ab;have g:((b.toNat:Int)<49)↔b.toNat<49:=Ab;simp[i1,d,i3];by_cases h1:a.toNat=104<;>by_cases h2:49<=b.toNat<;>by_cases h3:b.toNat<=54<;>simp[h1,h2,h3]<;>omega
 |a::b::c::l=>simp[Dc];omega
def VS(i:Item):i.row=[.int .i64 i.node,.int .i64 i.A9,.str i.name,.bool i.QG]:=rfl
def aPp(w:SW h bi b F si t av)(g:Gz b (n+4) o a)(ht:t.Sm)(hv:Bw t.As av):Gc h F 132 [.ptr (some (si,0))] (.tuple []) bi (b.Ia t):=by
 have m:=(aPo (D1 b.B4.Au).name);unfold BS.Ia;dsimp only;by_cases j:(D1 b.B4.Au).A9=1
 .by_cases p:(D1 b.B4.Au).name∈Dc;.rw[show AG Dc (D1 b.B4.Au)=true by simp[AG,j,p],Af rfl];rw[Ak p] at m;have l0:=w.Ci;obtain⟨h1,u,k,c,e⟩:=JW w.pb g;have w1:=w.after c e;have l1:=w1.Ci;have l:=pD c g.B4;obtain⟨h2,s,r2,f,d⟩:=P6 c g.B4;have i:=w1.after f d;have l2:=i.Ci;obtain⟨h3,y,x,r,q⟩:=Fp f g.B4.FY ht hv;have v:=i.after r q;have l3:=v.Ci;refine⟨_,_,?_,r,(e.trans d).trans q⟩;rw[Ag,WO,Ë];simp only[abS,↓reduceIte,l0,k.Ae,l1,l.Ae,r2.Ae,l2,x.Ae,VS,BG j,m.BH rfl rfl]
  .rw[show AG Dc (D1 b.B4.Au)=false by simp[AG,j,p],Ac AB];rw[Ap p] at m;have l0:=w.Ci;obtain⟨h1,u,k,c,e⟩:=JW w.pb g;have w1:=w.after c e;have l1:=w1.Ci;have l:=pD c g.B4;obtain⟨h2,s,r2,f,d⟩:=Fp c g.B4 ht hv;have i:=w1.after f d;have l2:=i.Ci;refine⟨_,_,?_,f,e.trans d⟩;rw[Ag,WO,Ë];simp only[abS,↓reduceIte,l0,k.Ae,l1,l.Ae,r2.Ae,VS,BG j,m.BH rfl rfl]
 .rw[show AG Dc (D1 b.B4.Au)=false by simp[AG,j],Ac AB];have l0:=w.Ci;obtain⟨h1,u,k,c,e⟩:=JW w.pb g;have w1:=w.after c e;have l1:=w1.Ci;have l:=pD c g.B4;obtain⟨h2,s,r2,f,d⟩:=Fp c g.B4 ht hv;have i:=w1.after f d;have l2:=i.Ci;refine⟨_,_,?_,f,e.trans d⟩;rw[Ag,WO,Ë];simp only[abS,↓reduceIte,l0,k.Ae,l1,l.Ae,r2.Ae,VS,j]
def aPq(w:SW h bi b F si t av)(g:Gz b (n+4) o a)(ht:t.Sm)(hv:Bw t.As av):Gc h F 133 [.ptr (some (si,0))] (.tuple []) bi (b.JR t):=by have l0:=w.Ci;obtain⟨h1,q,p,k,e⟩:=Đ w g ht hv;have w1:=w.after k e;have l1:=w1.Ci;obtain⟨r2,j,d⟩:=ć k true;have f:=w1.after j d;have l2:=f.Ci;obtain⟨m,i,c⟩:=Mf j false;have l:=f.after i c;have l3:=l.Ci;refine⟨_,_,?_,i,(e.trans d).trans c⟩;rw[Ag,zM,aEp];simp only[abS,p.Ae,l1,r2,l2,m]
def aPr(w:SW h bi b F si t av)(g:Gz b (n+4) o a)(ht:t.Sm)(hv:Bw t.As av):Gc h F 145 [.ptr (some (si,0))] (.tuple []) bi (b.MG t):=by
 unfold BS.MG;dsimp only;by_cases k:b.GO=0
 .by_cases d:b.Of;.rw[Ac (by simp[k]),Af d];have l0:=w.Ci;have c:=SL w.pb g;rw[Ak d] at c;obtain⟨h1,s,m,j,f⟩:=JW w.pb g;have w1:=w.after j f;have l1:=w1.Ci;obtain⟨h2,r,r2,i,e⟩:=Fp j g.B4 ht hv;have l:=w1.after i e;have l2:=l.Ci;refine⟨_,_,?_,i,f.trans e⟩;rw[Ag,TR,qb];simp only[abS,l0,c.Ae,m.Ae,l1,r2.Ae,l2,BG k,CY]
  .rw[Ac (by simp[k]),Ac d];have l0:=w.Ci;have c:=SL w.pb g;rw[Ap d] at c;obtain⟨h1,s,m,j,f⟩:=JW w.pb g;have w1:=w.after j f;have l1:=w1.Ci;obtain⟨h2,r,r2,i,e⟩:=Fp j g.B4 ht hv;have l:=w1.after i e;have l2:=l.Ci;obtain⟨v,q,p⟩:=jY i (b.B4.Mw 1);have u:=l.after q p;have l3:=u.Ci;refine⟨_,_,?_,q,(f.trans e).trans p⟩;rw[Ag,TR,qb];simp only[abS,l0,c.Ae,m.Ae,l1,r2.Ae,l2,v,BG k,CY]
 .by_cases d:b.Of;.rw[Ac (by simp[d]),Af d];have l0:=w.Ci;have c:=SL w.pb g;rw[Ak d] at c;obtain⟨h1,s,m,j,f⟩:=JW w.pb g;have w1:=w.after j f;have l1:=w1.Ci;obtain⟨h2,r,r2,i,e⟩:=Fp j g.B4 ht hv;have l:=w1.after i e;have l2:=l.Ci;refine⟨_,_,?_,i,f.trans e⟩;rw[Ag,TR,qb];simp only[abS,l0,c.Ae,m.Ae,l1,r2.Ae,l2,k,CY]
  .rw[Af ⟨k,d⟩];have l0:=w.Ci;have c:=SL w.pb g;rw[Ap d] at c;refine⟨_,_,?_,w.pb,.refl⟩;rw[Ag,TR,qb];simp only[abS,l0,c.Ae,k,CY]
def aPs(w:SW h bi b F si t av)(g:Gz b (n+4*a+4) o a)(ht:t.Sm)(hv:Bw t.As av):Gc h F 146 [.ptr (some (si,0))] (.tuple []) bi (b.KQ t):=by
 unfold BS.KQ;dsimp only;cases u:b.has [aWx] with
 |true=>have g1:Gz (b.Ds aWx []) (n+4+4*a) o a:=g.Ds.dn Ab;rw[Af rfl];have l0:=w.Ci;have i:=T8 w g aWx;rw[u] at i;obtain⟨h1,z,q,l,e⟩:=j3 w g aWx [];have w1:=w.after l e;have l1:=w1.Ci;obtain⟨h2,y,r2,k,d⟩:=C6 l g1;have f:=w1.after k d;have l2:=f.Ci;obtain⟨h3,A,p,j,c⟩:=Fp k g1.AL ht hv;have m:=f.after j c;have l3:=m.Ci;obtain⟨x,s,r⟩:=Mf j false;have v:=m.after s r;have l4:=v.Ci;refine⟨_,_,?_,s,((e.trans d).trans c).trans r⟩;rw[Ag,hO,t146];simp only[abS,l0,i.Ae,q.Ae,l1,r2.Ae,l2,p.Ae,l3,x]
 |false=>have g1:Gz b (n+4+4*a) o a:=g.dn Ab;rw[Ac AB];have l0:=w.Ci;have i:=T8 w g aWx;rw[u] at i;obtain⟨h1,z,q,l,e⟩:=C6 w.pb g1;have w1:=w.after l e;have l1:=w1.Ci;obtain⟨h2,y,r2,k,d⟩:=Fp l g1.AL ht hv;have f:=w1.after k d;have l2:=f.Ci;obtain⟨p,j,c⟩:=Mf k false;have m:=f.after j c;have l3:=m.Ci;refine⟨_,_,?_,j,(e.trans d).trans c⟩;rw[Ag,hO,t146];simp only[abS,l0,i.Ae,q.Ae,l1,r2.Ae,l2,p]
def aGv(w:SW h bi b F si t av)(g:Gz b (n+4*a+5) o a)(ht:t.Sm)(hv:Bw t.As av):Gc h F 134 [.ptr (some (si,0))] (.tuple []) bi (b.uX t):=by have g1:Gz b (n+5+4*a) o a:=g.dn Ab;have l0:=w.Ci;obtain⟨h1,l,j,f,d⟩:=C6 w.pb g1;have w1:=w.after f d;have l1:=w1.Ci;obtain⟨h2,k,r2,e,c⟩:=Ă f g1.AL ht hv;have i:=w1.after e c;have l2:=i.Ci;refine⟨_,_,?_,e,d.trans c⟩;rw[Ag,zN,aEq];simp only[abS,l0,j.Ae,l1,r2.Ae]
def aGw(w:PB h bi b F)(g:Gz b n o a)(x:Int):∃r,Gc h F 213 [.ptr (some (bi,3)),.int .i64 x] r bi {b with A4:=BS.J2 b.A4 x}:=by
 obtain⟨i,f,c,tt,G,w,hc,rfl⟩:=w;have oB:=g.rm.A4;have l3:=w.l3;obtain⟨fs,ME,WD⟩:=hc;have Jj:fs.length=b.A4.length:=by rw[<-ME,Aw]
 have d:=f41 w.qi WD Ab x;rw[YY,ME] at d;by_cases k:FL x b.A4<0
 .have e:BS.J2 b.A4 x=b.A4:=by unfold BS.J2;rw[Af k]
  refine⟨ff,h,BT bi G,?_,⟨i,f,c,tt,G,?_,⟨fs,?_,WD⟩,rfl⟩,.refl⟩;.rw[Ag,iO,aAy];simp only[abS,d.Ae,BG k]
  .rw[e];exact w
  .rw[e];exact ME
 .have hlt:(FL x b.A4).toNat<fs.length:=by obtain⟨p,hp,e,_⟩:=KP (n:=x) (l:=b.A4) Ab;omega
  obtain⟨u,r2,hu⟩:=aI8 (h:=h) WD hlt Ab;have he:((FL x b.A4).toNat:Int)=FL x b.A4:=Ab;rw[he] at r2;have w':=w.TW (u:=u) (l:=BS.J2 b.A4 x);have ls:ED (BS.J2 b.A4 x) u:=⟨Bx fs (FL x b.A4).toNat,by unfold BS.J2;rw[Ac k,<-ME];unfold Bx;simp[HA,Mk],hu⟩;refine⟨.bool true,_,_,?_,⟨i,f,u,tt,G,w',ls,rfl⟩,Cz⟩;rw[Ag,iO,aAy];simp only[abS,d.Ae,k,l3,r2.Ae,w.st (k:=3) (v0:=c) rfl (Ff.cells hu)]
def aPt(w:SW h bi b F si t av)(g:Gz b (n+4*a+5) o a)(ht:t.Sm)(hv:Bw t.As av):Gc h F 135 [.ptr (some (si,0))] (.tuple []) bi (b.BU t):=by have g1:Gz b (n+1+4+4*a) o a:=g.dn Ab;have l0:=w.Ci;obtain⟨h1,y,u,p,f⟩:=C6 w.pb g1;have w1:=w.after p f;have l1:=w1.Ci;obtain⟨h2,x,r2,m,e⟩:=Fp p g1.AL ht hv;have j:=w1.after m e;have l2:=j.Ci;obtain⟨h3,v,s,l,d⟩:=ą m (g1.AL.CU ht);have i:=j.after l d;have l3:=i.Ci;obtain⟨r,k,c⟩:=Mf l false;have q:=i.after k c;have l4:=q.Ci;refine⟨_,_,?_,k,((f.trans e).trans d).trans c⟩;rw[Ag,zO,aEr];simp only[abS,l0,u.Ae,l1,r2.Ae,l2,s.Ae,l3,r]
def aPu(w:SW h bi b F si t av)(g:Gz b (n+8*(4*(o+a+8)+10)+8*a+100) o a)(ht:t.Sm)(hv:Bw t.As av):Gc h F 148 [.ptr (some (si,0))] (.tuple []) bi (b.T2 t):=by
 have g0:Gz b (n+5+4*(a+8)+8*(4*(o+a+8)+10)+4*a) o a:=g.dn Ab;have g1:=g0.AL;unfold BS.T2;dsimp only;cases s:b.AL.has [aWT] with
 |true=>simp only[BN];have l0:=w.Ci;obtain⟨h1,z,k,i,d⟩:=C6 w.pb g0;have w1:=w.after i d;have l1:=w1.Ci;have e:=T8 w1 g1 aWT;rw[s] at e;obtain⟨h2,y,r2,f,c⟩:=Zi i g1 aWT;have j:=w1.after f c;have l2:=j.Ci;obtain⟨h3,C,x,r,m⟩:=C6 f g1.C1;have p:=j.after r m;have l3:=p.Ci;obtain⟨A,B,v,q,l⟩:=Ă r g1.C1.AL ht hv;have u:=p.after q l;have l4:=u.Ci;refine⟨_,_,?_,q,((d.trans c).trans m).trans l⟩;rw[Ag,iA,t148];simp only[abS,l0,k.Ae,l1,e.Ae,r2.Ae,l2,x.Ae,l3,v.Ae]
 |false=>simp only[Cb,DP];have l0:=w.Ci;obtain⟨h1,z,k,i,d⟩:=C6 w.pb g0;have w1:=w.after i d;have l1:=w1.Ci;have e:=T8 w1 g1 aWT;rw[s] at e;obtain⟨h2,y,r2,f,c⟩:=Ă i (g1.dn (n':=n+5) Ab) ht hv;have j:=w1.after f c;have l2:=j.Ci;refine⟨_,_,?_,f,d.trans c⟩;rw[Ag,iA,t148];simp only[abS,l0,k.Ae,l1,e.Ae,r2.Ae]
def aKt(w:PB h bi b F)(g:Gz b n o a):∃x r u,Bn h none (.ptr (some (bi,0)))=some (.ptr (some (x,0)))/\Cy cx 13 [.ptr (some (x,0)),.int .i64 b.BM] h (.tuple [.agg r,I 0]) (h++u)/\r.length=13/\r.getD 10 .nilIface= .bool (b.a.nd b.BM).DW:=by obtain⟨f,i,c,tt,G,w,hc,rfl⟩:=w;have l0:=w.l0;obtain⟨n',m',ps,e⟩:=w.w.pa;obtain⟨r,u,d,K,V,rfl,k,j⟩:=aAO (x:=b.BM) e g.rm.Wk (g.rm.Wk.Bm g.ok.ok _);rw[Af g.ok.BM.1] at d;exact⟨f,_,u,l0,d,rfl,rfl⟩
def aPv(w:SW h bi b F si t av)(g:Gz b (n+4) o a)(ht:t.Sm)(hv:Bw t.As av):Gc h F 149 [.ptr (some (si,0))] (.tuple []) bi (b.SH t):=by
 obtain⟨x,r,u,lt,rn,Kv,M5⟩:=aKt w.pb g;have y:=w.Ci;have B:SW (h++u) bi b F si t av:=w.after w.pb.Mo ⟨AB,λi hi _=>Al hi,λ_ hf=> .inl hf⟩;have A:Fo h F (h++u) F:=⟨AB,λi hi _=>Al hi,λ_ hf=> .inl hf⟩;have key:∀(w:SW (h++u) bi b F si t av),∃h' F',W cx (Cd cx 149 [.ptr (some (si,0))]) (λx vs h1=>x= .ret/\vs=[.tuple []]/\h1=h') h/\PB h' bi (b.SH t) F'/\Fo (h++u) F h' F':=by
  intro w;unfold BS.SH;dsimp only;cases z:(b.a.nd b.BM).DW with
  |true=>rw[z] at M5;simp only[BN];have l0:=w.Ci;obtain⟨h1,E,q,l,e⟩:=Fp w.pb g ht hv;have w1:=w.after l e;have l1:=w1.Ci;obtain⟨r2,k,d⟩:=Mf l false;have f:=w1.after k d;have l2:=f.Ci;obtain⟨p,j,c⟩:=GH k 9;have m:=f.after j c;have l3:=m.Ci;refine⟨_,_,?_,j,(e.trans d).trans c⟩;rw[iB,aAl];simp only[abS,↓reduceIte,y,lt,rn.Ae,Kv,M5,l0,q.Ae,l1,r2,l2,p]
  |false=>rw[z] at M5;simp only[Cb,DP];have l0:=w.Ci;obtain⟨h1,E,q,l,e⟩:=JW w.pb g;have w1:=w.after l e;have l1:=w1.Ci;obtain⟨h2,G,r2,k,d⟩:=Fp l g.B4 ht hv;have f:=w1.after k d;have l2:=f.Ci;obtain⟨p,j,c⟩:=Mf k false;have m:=f.after j c;have l3:=m.Ci;obtain⟨D,v,s⟩:=GH j 9;have C:=m.after v s;have l4:=C.Ci;refine⟨_,_,?_,v,((e.trans d).trans c).trans s⟩;rw[iB,aAl];simp only[abS,↓reduceIte,y,lt,rn.Ae,Kv,M5,l0,q.Ae,l1,r2.Ae,l2,p,l3,D]
 obtain⟨h',F',r',p',x'⟩:=key B;exact⟨h',F',Ag.2 r',p',A.trans x'⟩
def đ(h:Ai)(F:Nat->Prop)(si:Nat)(f:FuncId)(args:List Aa)(r:Aa)(bi:Nat)(b':BS):Prop:=∃h' F',Cy cx f args h r h'/\PB h' bi b' F'/\Fo h (λi=>F i\/i=si) h' (λi=>F' i\/i=si)
def Fo.pI(x:Fo h F h' F'):Fo h (λi=>F i\/i=si) h' (λi=>F' i\/i=si):=
 ⟨x.len,λi hi hn=>x.old i hi λhf=>hn (.inl hf),λi hi=>by
  rcases hi with hi|hi
  .rcases x.BT i hi with h1|h1
   .exact .inl (.inl h1)
   .exact .inr h1
  .exact .inl (.inr hi)⟩
def Gc.MR{f:FuncId}{args:List Aa}{r:Aa}(d:Gc h F f args r bi b'):đ h F si f args r bi b':=by obtain⟨h1,i,e,g,c⟩:=d;exact⟨h1,i,e,g,c.pI⟩
def aGx(i:Item)(s:Ah)(h:Ai):Cy cx 208 [.agg i.row,.str s] h (.bool (AG [s] i)) h:=by
 rw[Ag,bp,aE2];simp only[Cx,VS];refine⟨λh1=>?_,λh1=>?_⟩;.simp[AG,h1]
 .simp[AG,h1]
def Ē(w:SW h bi b F si t av):Cy cx 210 [.ptr (some (si,0))] h (.tuple [.int .i64 (El b.Au 1).node,.bool b.My]) h:=by
 have l0:=w.Ci;have d:=aBc w.pb 1;have r2:=Zk w.pb;have c:=aGx (El b.Au 1) aWz h;rw[VS] at d c;rw[Ag,bq,aE3];simp only[abS,l0,d.Ae,r2.Ae,c.Ae];refine⟨λh1=>?_,λh1=>?_⟩
 .have:2<=b.Au.length:=by omega
  simp[BS.My,this]
 .have:¬2<=b.Au.length:=by omega
  simp[BS.My,this]
def aGy:K9 aYl wDD:=NV Ed
def aGz:K9 [108,105] [[108,105]]:=NV Ed
def jl:K9 aXL aF:=NV Ed
def aGA:K9 aWI Dc:=NV Ed
def aPw(w:SW h bi b F si t av)(g:Gz b (n+4) o a)(ht:t.Sm)(hv:Bw t.As av):Gc h F 141 [.ptr (some (si,0))] (.tuple []) bi (b.SG t):=by
 have ho:=g.rm.Au;obtain⟨G,H,A⟩:=Mf w.pb false;have w1:=w.after H A;have l0:=w.Ci;have l1:=w1.Ci;have g1:Gz {b with fs:=false} (n+4) o a:=g.eq rfl rfl rfl rfl rfl;have ln:=Zk w1.pb;have Qa:Ev cx 141 [.ptr (some (si,0))] h λr h'=>r= .tuple []/\∃F',PB h' bi (b.SG t) F'/\Fo h F h' F':=by
  unfold Ev BS.SG;generalize{b with fs:=false}=c at*;rw[zQ,aEt];have e0:(c.Au.length:Int)<=900000000:=by have:=g1.rm.Au;omega
  by_cases z:t.name=[108,105]
  .obtain⟨ws,ĸ⟩:∃ws,ws=(if t.name=[108,105] then[[108,105]] else wDD):=⟨_,rfl⟩;have hw:K9 [108,105] ws:=by rw[ĸ,Af z];exact aGz
   rw[<-ĸ];clear ĸ;simp only[abS,l0,l1,G,BG z,CY,ln.Ae,Ek (Ab: -9223372036854775808<=(c.Au.length:Int)-1) (Ab:(c.Au.length:Int)-1<9223372036854775808)];generalize put h bi 14 ff=hs at*;refine F0 (i:=0) (λn:Nat=>[.int .i64 ((n:Int)-1)]) (λn h1=>n<=c.Au.length/\c.Au.reverse.find? (BS.JH ws)=(c.Au.take n).reverse.find? (BS.JH ws)/\h1=hs) (λn=>n) (λn h1=>∃F',PB h1 bi (c.FN ws) F'/\Fo hs F h1 F') c.Au.length rfl ⟨Ad _,by rw[Bk],rfl⟩ ?_ ?_
   .rintro n h1 ⟨hn,ha,rfl⟩;cases n with
    |zero=>
     have e:c.FN ws=c:=by unfold BS.FN;rw[ha];rfl
     simp only[abS,(Ab:¬(0:Int)<=((0:Nat):Int)-1)];exact .Jz 0 rfl ⟨F,by rw[e];exact w1.pb,.refl⟩
    |succ n=>
     have hlt:n<c.Au.length:=Ab;have i1:((n+1:Nat):Int)-1=(n:Int):=Ab;have r2:=aBc w1.pb (n:Int);rw[Iw hlt] at r2;rw[TX hlt,If] at ha;generalize hi:c.Au[n]=i at*;rw[VS] at r2;have k:=u9 hw i.name;have m:=u9 jl i.name;have f:=aAJ i.A9 i.name;have sub:=Ek (Ab: -9223372036854775808<=(n:Int)-1) (Ab:(n:Int)-1<9223372036854775808);by_cases q:AG ws i=true
     .have d:i.A9=1/\i.name∈ws:=by simpa[AG] using q
      rw[Ak d.2] at k;obtain⟨h2,y,u,v,s⟩:=j3 w1 g1 i.name i.name;have e:c.FN ws=c.Ds i.name i.name:=by unfold BS.FN;rw[ha];simp[BS.JH,q]
      simp only[abS,↓reduceIte,l1,i1,(Ab:(0:Int)<=(n:Int)),r2.Ae,BG d.1,k.BH rfl rfl,u.Ae];exact .Jz (n+1) (by rw[i1]) ⟨y,by rw[e];exact v,s⟩
     .have l:AG ws i=false:=by simpa using q
      have D:BS.JH ws i=(AO i&& !(AG aF i)):=by simp[BS.JH,l]
      rw[D] at ha;have stop:AO i=true->AG aF i=false->c.FN ws=c:=λh1 h2=>by unfold BS.FN;rw[ha,h1,h2];simp[l]
      have go:(AO i&& !(AG aF i))=false->c.Au.reverse.find? (BS.JH ws)=(c.Au.take n).reverse.find? (BS.JH ws):=λh1=>by rw[ha,h1]
      by_cases d:i.A9=1
      .have C:i.name∉ws:=λh=>q (by simp[AG,d,h]);rw[Ap C] at k;by_cases j:AO i=true
       .have j6:D4 i.A9 i.name=true:=j;rw[j6] at f;by_cases p:i.name∈aF;.rw[Ak p] at m;simp only[abS,↓reduceIte,l1,i1,(Ab:(0:Int)<=(n:Int)),r2.Ae,BG d,k.BH rfl rfl,m.BH rfl rfl,f.BH rfl rfl,sub];exact .next n rfl ⟨Ab,go (by simp[AG,d,p]),rfl⟩ Ab
        .rw[Ap p] at m;simp only[abS,↓reduceIte,l1,i1,(Ab:(0:Int)<=(n:Int)),r2.Ae,BG d,k.BH rfl rfl,m.BH rfl rfl,f.BH rfl rfl,sub];exact .Jz (n+1) (by rw[i1]) ⟨F,by rw[stop j (by simp[AG,p])];exact w1.pb,.refl⟩
       .have j6:D4 i.A9 i.name=false:=by simpa[AO] using j
        rw[j6] at f;simp only[abS,↓reduceIte,l1,i1,(Ab:(0:Int)<=(n:Int)),r2.Ae,BG d,k.BH rfl rfl,f.BH rfl rfl,sub];exact .next n rfl ⟨Ab,go (by simp[show AO i=false from j6]),rfl⟩ Ab
      .by_cases j:AO i=true;.have j6:D4 i.A9 i.name=true:=j;rw[j6] at f;simp only[abS,↓reduceIte,l1,i1,(Ab:(0:Int)<=(n:Int)),r2.Ae,d,f.BH rfl rfl,sub];exact .Jz (n+1) (by rw[i1]) ⟨F,by rw[stop j (by simp[AG,d])];exact w1.pb,.refl⟩
       .have j6:D4 i.A9 i.name=false:=by simpa[AO] using j
        rw[j6] at f;simp only[abS,↓reduceIte,l1,i1,(Ab:(0:Int)<=(n:Int)),r2.Ae,d,f.BH rfl rfl,sub];exact .next n rfl ⟨Ab,go (by simp[show AO i=false from j6]),rfl⟩ Ab
   .rintro n h1 ⟨y,B,x⟩;obtain⟨h3,E,u,v,s⟩:=Đ (w1.after B x) g1.FN ht hv;simp only[Cx,u.Ae];exact⟨_,rfl,rfl,E,v,(A.trans x).trans s⟩
  .obtain⟨ws,ĸ⟩:∃ws,ws=(if t.name=[108,105] then[[108,105]] else wDD):=⟨_,rfl⟩;have hw:K9 aYl ws:=by rw[ĸ,Ac z];exact aGy
   rw[<-ĸ];clear ĸ;simp only[abS,l0,l1,G,z,CY,ln.Ae,Ek (Ab: -9223372036854775808<=(c.Au.length:Int)-1) (Ab:(c.Au.length:Int)-1<9223372036854775808)];generalize put h bi 14 ff=hs at*;refine F0 (i:=0) (λn:Nat=>[.int .i64 ((n:Int)-1)]) (λn h1=>n<=c.Au.length/\c.Au.reverse.find? (BS.JH ws)=(c.Au.take n).reverse.find? (BS.JH ws)/\h1=hs) (λn=>n) (λn h1=>∃F',PB h1 bi (c.FN ws) F'/\Fo hs F h1 F') c.Au.length rfl ⟨Ad _,by rw[Bk],rfl⟩ ?_ ?_
   .rintro n h1 ⟨hn,ha,rfl⟩;cases n with
    |zero=>
     have e:c.FN ws=c:=by unfold BS.FN;rw[ha];rfl
     simp only[abS,(Ab:¬(0:Int)<=((0:Nat):Int)-1)];exact .Jz 0 rfl ⟨F,by rw[e];exact w1.pb,.refl⟩
    |succ n=>
     have hlt:n<c.Au.length:=Ab;have i1:((n+1:Nat):Int)-1=(n:Int):=Ab;have r2:=aBc w1.pb (n:Int);rw[Iw hlt] at r2;rw[TX hlt,If] at ha;generalize hi:c.Au[n]=i at*;rw[VS] at r2;have k:=u9 hw i.name;have m:=u9 jl i.name;have f:=aAJ i.A9 i.name;have sub:=Ek (Ab: -9223372036854775808<=(n:Int)-1) (Ab:(n:Int)-1<9223372036854775808);by_cases q:AG ws i=true
     .have d:i.A9=1/\i.name∈ws:=by simpa[AG] using q
      rw[Ak d.2] at k;obtain⟨h2,y,u,v,s⟩:=j3 w1 g1 i.name i.name;have e:c.FN ws=c.Ds i.name i.name:=by unfold BS.FN;rw[ha];simp[BS.JH,q]
      simp only[abS,↓reduceIte,l1,i1,(Ab:(0:Int)<=(n:Int)),r2.Ae,BG d.1,k.BH rfl rfl,u.Ae];exact .Jz (n+1) (by rw[i1]) ⟨y,by rw[e];exact v,s⟩
     .have l:AG ws i=false:=by simpa using q
      have D:BS.JH ws i=(AO i&& !(AG aF i)):=by simp[BS.JH,l]
      rw[D] at ha;have stop:AO i=true->AG aF i=false->c.FN ws=c:=λh1 h2=>by unfold BS.FN;rw[ha,h1,h2];simp[l]
      have go:(AO i&& !(AG aF i))=false->c.Au.reverse.find? (BS.JH ws)=(c.Au.take n).reverse.find? (BS.JH ws):=λh1=>by rw[ha,h1]
      by_cases d:i.A9=1
      .have C:i.name∉ws:=λh=>q (by simp[AG,d,h]);rw[Ap C] at k;by_cases j:AO i=true
       .have j6:D4 i.A9 i.name=true:=j;rw[j6] at f;by_cases p:i.name∈aF;.rw[Ak p] at m;simp only[abS,↓reduceIte,l1,i1,(Ab:(0:Int)<=(n:Int)),r2.Ae,BG d,k.BH rfl rfl,m.BH rfl rfl,f.BH rfl rfl,sub];exact .next n rfl ⟨Ab,go (by simp[AG,d,p]),rfl⟩ Ab
        .rw[Ap p] at m;simp only[abS,↓reduceIte,l1,i1,(Ab:(0:Int)<=(n:Int)),r2.Ae,BG d,k.BH rfl rfl,m.BH rfl rfl,f.BH rfl rfl,sub];exact .Jz (n+1) (by rw[i1]) ⟨F,by rw[stop j (by simp[AG,p])];exact w1.pb,.refl⟩
       .have j6:D4 i.A9 i.name=false:=by simpa[AO] using j
        rw[j6] at f;simp only[abS,↓reduceIte,l1,i1,(Ab:(0:Int)<=(n:Int)),r2.Ae,BG d,k.BH rfl rfl,f.BH rfl rfl,sub];exact .next n rfl ⟨Ab,go (by simp[show AO i=false from j6]),rfl⟩ Ab
      .by_cases j:AO i=true;.have j6:D4 i.A9 i.name=true:=j;rw[j6] at f;simp only[abS,↓reduceIte,l1,i1,(Ab:(0:Int)<=(n:Int)),r2.Ae,d,f.BH rfl rfl,sub];exact .Jz (n+1) (by rw[i1]) ⟨F,by rw[stop j (by simp[AG,d])];exact w1.pb,.refl⟩
       .have j6:D4 i.A9 i.name=false:=by simpa[AO] using j
        rw[j6] at f;simp only[abS,↓reduceIte,l1,i1,(Ab:(0:Int)<=(n:Int)),r2.Ae,d,f.BH rfl rfl,sub];exact .next n rfl ⟨Ab,go (by simp[show AO i=false from j6]),rfl⟩ Ab
   .rintro n h1 ⟨y,B,x⟩;obtain⟨h3,E,u,v,s⟩:=Đ (w1.after B x) g1.FN ht hv;simp only[Cx,u.Ae];exact⟨_,rfl,rfl,E,v,(A.trans x).trans s⟩
 obtain⟨r,h',hr,rfl,F',p',x'⟩:=Qa.ret;exact⟨h',F',hr,p',x'⟩
def aGB(w:PB h bi b F)(g:Gz b n o a)(nm:Ah):Cy cx 212 [.ptr (some (bi,3)),.str nm] h (.int .i64 (DS nm b.A4)) h/\(0<=DS nm b.A4->∃v p,Bn h none (.ptr (some (bi,3)))=some v/\AH (.GY 3) [v,.int .i64 (DS nm b.A4)]=some p/\∃q,AH (.Gr 0) [p]=some q/\Bn h none q=some (.int .i64 (b.A4.getD (DS nm b.A4).toNat Ck.zero).node)):=by
 obtain⟨j,i,c,tt,G,w,hc,rfl⟩:=w;have oB:=g.rm.A4;obtain⟨fs,ME,WD⟩:=hc;have Jj:fs.length=b.A4.length:=by rw[<-ME,Aw]
 have d:=aI4 w.qi WD Ab nm;rw[gx,ME] at d;refine⟨d,λh0=>?_⟩;obtain⟨k,e,f⟩:=Y5 h0;rw[f,BF];have hk:k<fs.length:=Ab;have ea:=BB.DN (k:= .i64) WD hk;have hg:b.A4.getD k Ck.zero=fs[k].c:=by rw[AJ,<-ME,Dm,Av hk];rfl
 exact⟨c,_,w.l3,ea,_,rfl,by rw[hg];rfl⟩
def aPx(w:SW h bi b F si t av)(g:Gz b (n+8*(4*(o+8)+10)+4*(a+8)+5) o a)(ht:t.Sm)(hv:Bw t.As av):Gc h F 147 [.ptr (some (si,0))] (.tuple []) bi (b.Wu t):=by
 obtain⟨m,B⟩:=aGB w.pb g [97];unfold BS.Wu BS.No;dsimp only;by_cases u:DS [97] b.A4<0;.rw[Af u];have l0:=w.Ci;obtain⟨h1,H,f,d,c⟩:=aGv w (g.dn (n':=n+4*a+5) Ab) ht hv;have w1:=w.after d c;have l1:=w1.Ci;refine⟨_,_,?_,d,c⟩;rw[Ag,hZ,aAk];simp only[Cx,Nat.reduceLeDiff,↓reduceIte,Cl,fX,l0,f.Ae,l1,m.Ae,(Ab:¬(0:Int)<=DS [97] b.A4)]
 .rw[Ac u];obtain⟨v,p,G,E,q,D,C⟩:=B Ab;have g0:Gz b (n+4*(a+8)+5+8*(4*(o+8)+10)) o a:=g.dn Ab;generalize(b.A4.getD (DS [97] b.A4).toNat Ck.zero).node=nd at*;have l0:=w.Ci;obtain⟨h1,H,f,d,c⟩:=Zi w.pb g0 [97];have w1:=w.after d c;have l1:=w1.Ci;obtain⟨_,h2,L,r2,s,k⟩:=aGw d g0.C1 nd;have l:=w1.after s k;have l2:=l.Ci;obtain⟨_,h3,K,z,A,j⟩:=Zj s (g0.C1.sub (lo:=(b.C1 [97]).Au) (lc:=BS.J2 (b.C1 [97]).A4 nd) (lt:=(b.C1 [97]).tm) (BQ _) Md (Ad _)) nd;have e:=l.after A j;have l3:=e.Ci;obtain⟨I,J,y,r,i⟩:=aGv e (g0.C1.sub (lo:=Ce nd (b.C1 [97]).Au) (lc:=BS.J2 (b.C1 [97]).A4 nd) (lt:=(b.C1 [97]).tm) EI Md (Ad _)) ht hv;have x:=e.after r i;have l4:=x.Ci;refine⟨_,_,?_,r,((c.trans k).trans j).trans i⟩;rw[Ag,hZ,aAk];simp only[Cx,Nat.reduceLeDiff,↓reduceIte,Cl,fX,l0,f.Ae,l1,r2.Ae,l2,z.Ae,l3,y.Ae,l4,m.Ae,(Ab:(0:Int)<=DS [97] b.A4),G,E,D,C]
def pJ{x:Be}{l:List Be}:BS.QY (x::l)=if x.name=aXD then decide (Fc x.value=aXr) else BS.QY l:=by
 unfold BS.QY;rw[If];by_cases h:x.name=aXD;.simp[h]
 .simp[h]
def aPy(ht:t.Sm)(hv:Bw t.As av)(h:Ai):Cy cx 205 [.agg (CE t av)] h (.bool (BS.QY t.As)) h:=by
 have f:AV=140737488355328:=rfl;have K5:BB 3 (t.As.map Be.row) av:=hv;have e:=BB.GN K5;have hb:=ht.As.1;have hcl:Fc aXr=aXr:=QH AA;rw[Ag,bl,aEZ];simp only[Cx,e];refine Co (λn:Nat=>[ff,.int .i64 (n:Int)]) (λn h1=>n<=t.As.length/\h1=h/\BS.QY t.As=BS.QY (t.As.drop n)) (λn=>t.As.length-n) 0 rfl ⟨Bp _,rfl,rfl⟩ ?_;rintro n h1 ⟨hn,rfl,ha⟩;rcases Bl n t.As.length with hlt|IS
 .have d:=BB.DN (k:= .i64) K5 hlt;have RH:=(ht.As.2 _ (AF hlt)).2;have c:=Ù t.As[n].value aXr Ab AA;rw[hcl] at c;rw[Az hlt,pJ] at ha;rw[Be.row] at d;simp only[abS,Nat.reduceLeDiff,↓reduceIte,(Ab:(n:Int)<(t.As.length:Int)),d,c.BH rfl rfl,Dw (Ab:n<9223372036854775807)];refine⟨λh2=>?_,λh2=>?_⟩;.rw[ha,Af h2]
  .rw[Ac h2] at ha;exact BC.next (n+1) rfl ⟨hlt,rfl,ha⟩ Ab
 .rw[AR IS] at ha;simp only[abS,(Ab:¬(n:Int)<(t.As.length:Int)),ha];rfl
def SW.aBd(w:SW h bi b F si t av)(nm:Ah):C9 h 1 (.ptr (some (si,2))) (.str nm)=some (put h si 2 (.str nm))/\SW (put h si 2 (.str nm)) bi b F si {t with name:=nm} av/\Fo h (λi=>F i\/i=si) (put h si 2 (.str nm)) (λi=>F i\/i=si):=by have hs:At h si 2 (.str t.name):=⟨_,w.sc,rfl⟩;refine⟨hs.store (u:= .str nm) rfl,⟨w.pb.FM λi hi=>C5 λe=>w.no (e▸hi),?_,w.no⟩,⟨by rw[MK];exact Ad _,λi _ hn=>C5 λe=>hn (.inr e),λ_ h=> .inl h⟩⟩;rw[Kr w.sc];rfl
def aKv(w:SW h bi b F si t av)(g:Gz b (n+4*a+4) o a)(ht:t.Sm)(hv:Bw t.As av):đ h F si 136 [.ptr (some (si,0))] (.tuple []) bi (b.empty t):=by
 have A:Gz b (n+4) o a:=g.dn Ab;have g1:Gz b (n+4+4*a) o a:=g.dn Ab;unfold BS.empty;by_cases p:t.name=[104,114];.rw[Af p];refine Gc.MR ?_;have l0:=w.Ci;obtain⟨h1,u,m,f,d⟩:=JW w.pb A;have w1:=w.after f d;have l1:=w1.Ci;obtain⟨h2,y,r2,e,c⟩:=vB f A.B4 ht hv;have j:=w1.after e c;have l2:=j.Ci;obtain⟨r,l,k⟩:=Mf e false;have q:=j.after l k;have l3:=q.Ci;refine⟨_,_,?_,l,(d.trans c).trans k⟩;rw[Ag,MO,Z9];simp only[abS,l0,m.Ae,l1,r2.Ae,l2,r,BG p]
 rw[Ac p];by_cases i:t.name∈aA7
 .rw[Af i];refine Gc.MR ?_;have l0:=w.Ci;obtain⟨h1,u,m,f,d⟩:=vB w.pb A ht hv;have w1:=w.after f d;have l1:=w1.Ci;obtain⟨r2,e,c⟩:=Mf f b.fs;have j:=w1.after e c;have l2:=j.Ci;simp only[aA7,AE,Ej,Ml] at i;by_cases x:t.name=aX6
  .skip
   refine⟨_,_,?_,e,d.trans c⟩;rw[Ag,MO,Z9];simp only[abS,l0,m.Ae,l1,r2,p,BG x]
  by_cases z:t.name=aXO;.refine⟨_,_,?_,e,d.trans c⟩;rw[Ag,MO,Z9];simp only[abS,l0,m.Ae,l1,r2,p,x,BG z]
  .have E:t.name=aX7:=by simpa[x,z] using i
   refine⟨_,_,?_,e,d.trans c⟩;rw[Ag,MO,Z9];simp only[abS,l0,m.Ae,l1,r2,p,x,z,BG E]
 rw[Ac i];simp only[aA7,AE,Ej,Ml,PU] at i;by_cases s:t.name=aXW
 .rw[Af s];refine Gc.MR ?_;cases kf:b.fs with
  |true=>have l0:=w.Ci;obtain⟨h1,u,m,f,d⟩:=C6 w.pb g1;have w1:=w.after f d;have l1:=w1.Ci;have C:=aPy ht hv h1;obtain⟨h2,y,r2,e,c⟩:=vB f g1.AL ht hv;have j:=w1.after e c;have l2:=j.Ci;obtain⟨r,l,k⟩:=Mf e (BS.QY t.As);have q:=j.after l k;have l3:=q.Ci;rw[kf] at l0;refine⟨_,_,?_,l,(d.trans c).trans k⟩;rw[Ag,MO,Z9];simp only[abS,l0,m.Ae,l1,C.Ae,r2.Ae,l2,r,p,i.1,i.2.1,i.2.2,BG s]
  |false=>have l0:=w.Ci;obtain⟨h1,u,m,f,d⟩:=C6 w.pb g1;have w1:=w.after f d;have l1:=w1.Ci;obtain⟨h2,y,r2,e,c⟩:=vB f g1.AL ht hv;have j:=w1.after e c;have l2:=j.Ci;obtain⟨r,l,k⟩:=Mf e false;have q:=j.after l k;have l3:=q.Ci;rw[kf] at l0;refine⟨_,_,?_,l,(d.trans c).trans k⟩;rw[Ag,MO,Z9];simp only[abS,l0,m.Ae,l1,r2.Ae,l2,r,p,i.1,i.2.1,i.2.2,BG s]
 rw[Ac s];by_cases v:t.name=aX1;.rw[Af v];have D:=w.Ci;obtain⟨s0,w,B⟩:=w.aBd aYd;have JN:({t with name:=aYd}:DF).Sm:=ht.rn AA;have l0:=w.Ci;obtain⟨h1,u,m,f,d⟩:=C6 w.pb g1;have w1:=w.after f d;have l1:=w1.Ci;obtain⟨h2,y,r2,e,c⟩:=vB f g1.AL JN hv;have j:=w1.after e c;have l2:=j.Ci;obtain⟨r,l,k⟩:=Mf e false;have q:=j.after l k;have l3:=q.Ci;refine⟨_,_,?_,l,B.trans ((d.trans c).trans k).pI⟩;rw[Ag,MO,Z9];simp only[abS,D,p,i.1,i.2.1,i.2.2,s,BG v,s0,l0,m.Ae,l1,r2.Ae,l2,r]
 .rw[Ac v];refine Gc.MR ?_;have l0:=w.Ci;obtain⟨h1,u,m,f,d⟩:=C6 w.pb g1;have w1:=w.after f d;have l1:=w1.Ci;obtain⟨h2,y,r2,e,c⟩:=vB f g1.AL ht hv;have j:=w1.after e c;have l2:=j.Ci;obtain⟨r,l,k⟩:=Mf e false;have q:=j.after l k;have l3:=q.Ci;refine⟨_,_,?_,l,(d.trans c).trans k⟩;rw[Ag,MO,Z9];simp only[abS,l0,m.Ae,l1,r2.Ae,l2,r,p,i.1,i.2.1,i.2.2,s,v]
def aPz(w:SW h bi b F si t av)(g:Gz b (n+4*a+4) o a)(ht:t.Sm)(hv:Bw t.As av):Gc h F 138 [.ptr (some (si,0))] (.tuple []) bi (b.W8 t):=by
 have v:Gz b (n+4) o a:=g.dn Ab;have g1:Gz b.B4 (n+4+4*a) o a:=g.B4.dn Ab;unfold BS.W8;by_cases l:t.name=aW8;.rw[Af l];have l0:=w.Ci;obtain⟨h1,y,k,e,d⟩:=Đ w v ht hv;have w1:=w.after e d;have l1:=w1.Ci;obtain⟨r2,i,f⟩:=aPd e 5;have j:=w1.after i f;have l2:=j.Ci;refine⟨_,_,?_,i,d.trans f⟩;rw[Ag,Rw,uG];simp only[abS,l0,k.Ae,l1,r2,BG l]
 rw[Ac l];by_cases m:t.name=aXp;.rw[Af m];have l0:=w.Ci;obtain⟨h1,y,k,e,d⟩:=Zh w.pb v ht hv 2;have w1:=w.after e d;have l1:=w1.Ci;obtain⟨r2,i,f⟩:=ć e true;have j:=w1.after i f;have l2:=j.Ci;obtain⟨x,q,p⟩:=Mf i false;have s:=j.after q p;have l3:=s.Ci;refine⟨_,_,?_,q,(d.trans f).trans p⟩;rw[Ag,Rw,uG];simp only[abS,l0,k.Ae,l1,r2,l2,x,l,BG m]
 rw[Ac m];by_cases r:t.name=aYe;.rw[Af r];have l0:=w.Ci;obtain⟨h1,y,k,e,d⟩:=JW w.pb g;have w1:=w.after e d;have l1:=w1.Ci;obtain⟨h2,D,r2,i,f⟩:=C6 e g1;have j:=w1.after i f;have l2:=j.Ci;obtain⟨x,q,p⟩:=Mf i false;have s:=j.after q p;have l3:=s.Ci;obtain⟨E,G,C,A,z⟩:=Zh q (g1.AL.eq (c:={b.B4.AL with fs:=false}) rfl rfl rfl rfl rfl) ht hv 3;have B:=s.after A z;have l4:=B.Ci;refine⟨_,_,?_,A,((d.trans f).trans p).trans z⟩;rw[Ag,Rw,uG];simp only[abS,l0,k.Ae,l1,r2.Ae,l2,x,l3,C.Ae,l,m,BG r]
 rw[Ac r];by_cases u:t.name=aXC;.rw[Af u];have l0:=w.Ci;obtain⟨k,e,d⟩:=Mf w.pb false;have w1:=w.after e d;have l1:=w1.Ci;obtain⟨h2,D,r2,i,f⟩:=Zh e (v.eq (c:={b with fs:=false}) rfl rfl rfl rfl rfl) ht hv 3;have j:=w1.after i f;have l2:=j.Ci;refine⟨_,_,?_,i,d.trans f⟩;rw[Ag,Rw,uG];simp only[abS,l0,k,l1,r2.Ae,l,m,r,BG u]
 .rw[Ac u];have l0:=w.Ci;obtain⟨h1,y,k,e,d⟩:=Zh w.pb v ht hv 3;have w1:=w.after e d;have l1:=w1.Ci;refine⟨_,_,?_,e,d⟩;rw[Ag,Rw,uG];simp only[abS,l0,k.Ae,l,m,r,u]
def pK{nm:Ah}{l:List Be}{sp:Int}:(b.Cu nm l sp).mode=b.mode:=by
 unfold BS.Cu;split
 .rename_i hs;have e:∀p,(b.Gm nm l sp p).mode=b.mode:=λp=>by unfold BS.Gm;rw[Af hs]
  simp only[e]
 .rfl
def dQ:∀{l:List Ck} {b:BS},(BS.JG l b).2.mode=b.mode
 |[],b=>rfl
 |e::l,b=>by rw[BS.JG];simp only;rw[dQ,pK]
def aPA(w:SW h bi b F si t av)(g:Gz b (n+4*a+4) o a)(ht:t.Sm)(hv:Bw t.As av):Gc h F 150 [.ptr (some (si,0))] (.tuple []) bi (b.U4 t):=by
 have g1:Gz b (n+4+4*a) o a:=g.dn Ab;have em:(b.AL.CU t).mode=b.mode:=by unfold BS.CU;rw[pK];unfold BS.AL;simp only;exact dQ
 unfold BS.U4;by_cases v:b.mode=9;.rw[Af (.inl v)];have l0:=w.Ci;obtain⟨h1,B,u,p,f⟩:=C6 w.pb g1;have w1:=w.after p f;have l1:=w1.Ci;obtain⟨h2,A,r2,m,e⟩:=Fp p g1.AL ht hv;have j:=w1.after m e;have l2:=j.Ci;obtain⟨s,l,d⟩:=Mf m false;have i:=j.after l d;have l3:=i.Ci;simp only[em] at l3;obtain⟨r,k,c⟩:=GH l 17;have q:=i.after k c;have l4:=q.Ci;refine⟨_,_,?_,k,((f.trans e).trans d).trans c⟩;rw[Ag,PE,oD];simp only[abS,l0,u.Ae,l1,r2.Ae,l2,s,l3,r,BG v]
 by_cases x:b.mode=11;.rw[Af (.inr (.inl x))];have l0:=w.Ci;obtain⟨h1,B,u,p,f⟩:=C6 w.pb g1;have w1:=w.after p f;have l1:=w1.Ci;obtain⟨h2,A,r2,m,e⟩:=Fp p g1.AL ht hv;have j:=w1.after m e;have l2:=j.Ci;obtain⟨s,l,d⟩:=Mf m false;have i:=j.after l d;have l3:=i.Ci;simp only[em] at l3;obtain⟨r,k,c⟩:=GH l 17;have q:=i.after k c;have l4:=q.Ci;refine⟨_,_,?_,k,((f.trans e).trans d).trans c⟩;rw[Ag,PE,oD];simp only[abS,l0,u.Ae,l1,r2.Ae,l2,s,l3,r,v,BG x]
 by_cases y:b.mode=13;.rw[Af (.inr (.inr (.inl y)))];have l0:=w.Ci;obtain⟨h1,B,u,p,f⟩:=C6 w.pb g1;have w1:=w.after p f;have l1:=w1.Ci;obtain⟨h2,A,r2,m,e⟩:=Fp p g1.AL ht hv;have j:=w1.after m e;have l2:=j.Ci;obtain⟨s,l,d⟩:=Mf m false;have i:=j.after l d;have l3:=i.Ci;simp only[em] at l3;obtain⟨r,k,c⟩:=GH l 17;have q:=i.after k c;have l4:=q.Ci;refine⟨_,_,?_,k,((f.trans e).trans d).trans c⟩;rw[Ag,PE,oD];simp only[abS,l0,u.Ae,l1,r2.Ae,l2,s,l3,r,v,x,BG y]
 by_cases z:b.mode=14;.rw[Af (.inr (.inr (.inr (.inl z))))];have l0:=w.Ci;obtain⟨h1,B,u,p,f⟩:=C6 w.pb g1;have w1:=w.after p f;have l1:=w1.Ci;obtain⟨h2,A,r2,m,e⟩:=Fp p g1.AL ht hv;have j:=w1.after m e;have l2:=j.Ci;obtain⟨s,l,d⟩:=Mf m false;have i:=j.after l d;have l3:=i.Ci;simp only[em] at l3;obtain⟨r,k,c⟩:=GH l 17;have q:=i.after k c;have l4:=q.Ci;refine⟨_,_,?_,k,((f.trans e).trans d).trans c⟩;rw[Ag,PE,oD];simp only[abS,l0,u.Ae,l1,r2.Ae,l2,s,l3,r,v,x,y,BG z]
 by_cases C:b.mode=15;.rw[Af (.inr (.inr (.inr (.inr C))))];have l0:=w.Ci;obtain⟨h1,B,u,p,f⟩:=C6 w.pb g1;have w1:=w.after p f;have l1:=w1.Ci;obtain⟨h2,A,r2,m,e⟩:=Fp p g1.AL ht hv;have j:=w1.after m e;have l2:=j.Ci;obtain⟨s,l,d⟩:=Mf m false;have i:=j.after l d;have l3:=i.Ci;simp only[em] at l3;obtain⟨r,k,c⟩:=GH l 17;have q:=i.after k c;have l4:=q.Ci;refine⟨_,_,?_,k,((f.trans e).trans d).trans c⟩;rw[Ag,PE,oD];simp only[abS,l0,u.Ae,l1,r2.Ae,l2,s,l3,r,v,x,y,z,BG C]
 .rw[Ac (by simp[v,x,y,z,C])];have l0:=w.Ci;obtain⟨h1,B,u,p,f⟩:=C6 w.pb g1;have w1:=w.after p f;have l1:=w1.Ci;obtain⟨h2,A,r2,m,e⟩:=Fp p g1.AL ht hv;have j:=w1.after m e;have l2:=j.Ci;obtain⟨s,l,d⟩:=Mf m false;have i:=j.after l d;have l3:=i.Ci;simp only[em] at l3;obtain⟨r,k,c⟩:=GH l 16;have q:=i.after k c;have l4:=q.Ci;refine⟨_,_,?_,k,((f.trans e).trans d).trans c⟩;rw[Ag,PE,oD];simp only[abS,l0,u.Ae,l1,r2.Ae,l2,s,l3,r,v,x,y,z,C]
def aPB(w:SW h bi b F si t av)(g:Gz b (n+4*a+4) o a)(ht:t.Sm)(hv:Bw t.As av):Gc h F 142 [.ptr (some (si,0))] (.tuple []) bi (b.KR t):=by
 have g1:Gz b (n+4+4*a) o a:=g.dn Ab;unfold BS.KR;cases q:AG [aWH] (D1 b.Au) with
 |true=>rw[Af rfl];have l0:=w.Ci;have l:=pD w.pb g;have e:=aGx (D1 b.Au) aWH h;rw[q] at e;obtain⟨h1,v,k,i,d⟩:=P6 w.pb g1;have w1:=w.after i d;have l1:=w1.Ci;obtain⟨h2,u,r2,f,c⟩:=C6 i g1.FY;have j:=w1.after f c;have l2:=j.Ci;obtain⟨h3,x,s,p,m⟩:=Fp f g1.FY.AL ht hv;have r:=j.after p m;have l3:=r.Ci;refine⟨_,_,?_,p,(d.trans c).trans m⟩;rw[Ag,gZ,aAj];simp only[abS,l0,l.Ae,e.Ae,k.Ae,l1,r2.Ae,l2,s.Ae]
 |false=>rw[Ac AB];have l0:=w.Ci;have l:=pD w.pb g;have e:=aGx (D1 b.Au) aWH h;rw[q] at e;obtain⟨h1,v,k,i,d⟩:=C6 w.pb g1;have w1:=w.after i d;have l1:=w1.Ci;obtain⟨h2,u,r2,f,c⟩:=Fp i g1.AL ht hv;have j:=w1.after f c;have l2:=j.Ci;refine⟨_,_,?_,f,d.trans c⟩;rw[Ag,gZ,aAj];simp only[abS,l0,l.Ae,e.Ae,k.Ae,l1,r2.Ae]
def aPC(w:SW h bi b F si t av)(g:Gz b (n+4) o a)(ht:t.Sm)(hv:Bw t.As av):Gc h F 139 [.ptr (some (si,0))] (.tuple []) bi (b.SI t):=by
 unfold BS.SI;cases p:b.has [aXF] with
 |true=>
  rw[Af rfl];by_cases l:t.name=[114,112];.rw[Af (.inl l)];have l0:=w.Ci;have d:=T8 w g aXF;rw[p] at d;obtain⟨_,h1,q,j,e,c⟩:=MV w.pb g aXM;have w1:=w.after e c;have l1:=w1.Ci;obtain⟨h2,r,r2,i,f⟩:=Fp e (g.Ky Dd) ht hv;have k:=w1.after i f;have l2:=k.Ci;refine⟨_,_,?_,i,c.trans f⟩;rw[Ag,TP,p_];simp only[abS,l0,d.Ae,j.Ae,l1,r2.Ae,BG l]
  by_cases m:t.name=[114,116];.rw[Af (.inr m)];have l0:=w.Ci;have d:=T8 w g aXF;rw[p] at d;obtain⟨_,h1,q,j,e,c⟩:=MV w.pb g aXM;have w1:=w.after e c;have l1:=w1.Ci;obtain⟨h2,r,r2,i,f⟩:=Fp e (g.Ky Dd) ht hv;have k:=w1.after i f;have l2:=k.Ci;refine⟨_,_,?_,i,c.trans f⟩;rw[Ag,TP,p_];simp only[abS,l0,d.Ae,j.Ae,l1,r2.Ae,l,BG m]
  .rw[Ac (by simp[l,m])];have l0:=w.Ci;have d:=T8 w g aXF;rw[p] at d;obtain⟨_,h1,q,j,e,c⟩:=MV w.pb g [];have w1:=w.after e c;have l1:=w1.Ci;obtain⟨h2,r,r2,i,f⟩:=Fp e (g.Ky Dd) ht hv;have k:=w1.after i f;have l2:=k.Ci;refine⟨_,_,?_,i,c.trans f⟩;rw[Ag,TP,p_];simp only[abS,l0,d.Ae,j.Ae,l1,r2.Ae,l,m]
 |false=>rw[Ac AB];have l0:=w.Ci;have d:=T8 w g aXF;rw[p] at d;obtain⟨h1,q,j,e,c⟩:=Fp w.pb g ht hv;have w1:=w.after e c;have l1:=w1.Ci;refine⟨_,_,?_,e,c⟩;rw[Ag,TP,p_];simp only[abS,l0,d.Ae,j.Ae]
def aPD(w:SW h bi b F si t av)(g:Gz b (n+4*a+4) o a)(ht:t.Sm)(hv:Bw t.As av):Gc h F 140 [.ptr (some (si,0))] (.tuple []) bi (b.HF t):=by
 have g1:Gz b (n+4+4*a) o a:=g.dn Ab;unfold BS.HF;dsimp only;by_cases l:t.name=aXn
 .rw[Af l];cases c:t.sc with
  |true=>rw[Af rfl];have l0:=w.Ci;rw[c] at l0;obtain⟨h1,u,k,i,e⟩:=C6 w.pb g1;have w1:=w.after i e;have l1:=w1.Ci;rw[c] at l1;obtain⟨h2,s,r2,f,d⟩:=jW i g1.AL ht hv 3;have j:=w1.after f d;have l2:=j.Ci;rw[c] at l2;obtain⟨h3,v,r,p,m⟩:=P6 f (g1.AL.Mm ht.As ht.name);have q:=j.after p m;have l3:=q.Ci;refine⟨_,_,?_,p,(e.trans d).trans m⟩;rw[Ag,TQ,qa];simp only[abS,l0,k.Ae,l1,r2.Ae,l2,r.Ae,BG l]
  |false=>rw[Ac AB];have l0:=w.Ci;rw[c] at l0;obtain⟨h1,u,k,i,e⟩:=C6 w.pb g1;have w1:=w.after i e;have l1:=w1.Ci;rw[c] at l1;obtain⟨h2,s,r2,f,d⟩:=jW i g1.AL ht hv 3;have j:=w1.after f d;have l2:=j.Ci;rw[c] at l2;refine⟨_,_,?_,f,e.trans d⟩;rw[Ag,TQ,qa];simp only[abS,l0,k.Ae,l1,r2.Ae,l2,BG l]
 .rw[Ac l];cases c:t.sc with
  |true=>rw[Af rfl];have l0:=w.Ci;rw[c] at l0;obtain⟨h1,u,k,i,e⟩:=C6 w.pb g1;have w1:=w.after i e;have l1:=w1.Ci;rw[c] at l1;obtain⟨h2,s,r2,f,d⟩:=jW i g1.AL ht hv 2;have j:=w1.after f d;have l2:=j.Ci;rw[c] at l2;obtain⟨h3,v,r,p,m⟩:=P6 f (g1.AL.Mm ht.As ht.name);have q:=j.after p m;have l3:=q.Ci;refine⟨_,_,?_,p,(e.trans d).trans m⟩;rw[Ag,TQ,qa];simp only[abS,l0,k.Ae,l1,r2.Ae,l2,r.Ae,l]
  |false=>rw[Ac AB];have l0:=w.Ci;rw[c] at l0;obtain⟨h1,u,k,i,e⟩:=C6 w.pb g1;have w1:=w.after i e;have l1:=w1.Ci;rw[c] at l1;obtain⟨h2,s,r2,f,d⟩:=jW i g1.AL ht hv 2;have j:=w1.after f d;have l2:=j.Ci;rw[c] at l2;refine⟨_,_,?_,f,e.trans d⟩;rw[Ag,TQ,qa];simp only[abS,l0,k.Ae,l1,r2.Ae,l2,l]
def aKw(w:SW h bi b F si t av)(g:Gz b (n+1000) o a)(ht:t.Sm)(hv:Bw t.As av):Gc h F 143 [.ptr (some (si,0))] (.tuple []) bi (b.Ja t):=by
 unfold BS.Ja;by_cases k:b.Of;.rw[Af (.inl k)];have l0:=w.Ci;have d:=SL w.pb g;rw[Ak k] at d;refine⟨_,_,?_,w.pb,.refl⟩;rw[Ag,Rx,uH];simp only[abS,l0,d.Ae]
 by_cases q:b.Au=[];.rw[Af (.inr q)];have l0:=w.Ci;have d:=SL w.pb g;rw[Ap k] at d;have i:=Zk w.pb;refine⟨_,_,?_,w.pb,.refl⟩;rw[Ag,Rx,uH];simp only[Cx,fX,l0,d.Ae,i.Ae,show((b.Au.length:Int)=0)=True from BG (by rw[q];rfl)]
 have j:¬(b.Au.length:Int)=0:=λe=>q (CX Ab);rw[Ac (by simp[k,q])];by_cases p:t.name=aWu;.rw[Af p];have l0:=w.Ci;have d:=SL w.pb g;rw[Ap k] at d;have i:=Zk w.pb;have f:=aBc w.pb 0;obtain⟨h1,z,r,m,l⟩:=jd w.pb g ht hv (El b.Au 0).node;have w1:=w.after m l;have l1:=w1.Ci;refine⟨_,_,?_,m,l⟩;rw[Ag,Rx,uH];simp only[abS,l0,d.Ae,i.Ae,f.Ae,r.Ae,j,BG p,VS,DI]
 rw[Ac p];cases v:b.My with
 |true=>rw[Af rfl];have l0:=w.Ci;have d:=SL w.pb g;rw[Ap k] at d;have i:=Zk w.pb;have f:=Ē w;rw[v] at f;obtain⟨r,m,l⟩:=Mf w.pb false;have w1:=w.after m l;have l1:=w1.Ci;obtain⟨h2,y,r2,u,s⟩:=jd m (g.eq (c:={b with fs:=false}) rfl rfl rfl rfl rfl) ht hv (El b.Au 1).node;have x:=w1.after u s;have l2:=x.Ci;refine⟨_,_,?_,u,l.trans s⟩;rw[Ag,Rx,uH];simp only[abS,l0,d.Ae,i.Ae,f.Ae,r,l1,r2.Ae,j,p]
 |false=>rw[Ac AB];have l0:=w.Ci;have d:=SL w.pb g;rw[Ap k] at d;have i:=Zk w.pb;have f:=Ē w;rw[v] at f;refine⟨_,_,?_,w.pb,.refl⟩;rw[Ag,Rx,uH];simp only[abS,l0,d.Ae,i.Ae,f.Ae,j,p]
def aPF(w:SW h bi b F si t av)(g:Gz b (n+4*a+5) o a)(ht:t.Sm):Gc h F 81 [.ptr (some (si,0))] (.tuple []) bi (b.Ks t):=by
 have g1:Gz b (n+5+4*a) o a:=g.dn Ab;unfold BS.Ks;by_cases j:t.r=0;.rw[Af j];have l0:=w.Ci;refine⟨_,_,?_,w.pb,.refl⟩;rw[Ag,gS,t81];simp only[abS,l0,BG j]
 rw[Ac j];dsimp only;by_cases l:t.JE;.rw[Af l];have l0:=w.Ci;obtain⟨h1,x,m,i,d⟩:=C6 w.pb g1;have w1:=w.after i d;have l1:=w1.Ci;obtain⟨h2,v,r2,f,c⟩:=Zg i g1.AL ht.r;have k:=w1.after f c;have l2:=k.Ci;have e:=T6 t av h2;rw[Ak l] at e;refine⟨_,_,?_,f,d.trans c⟩;rw[Ag,gS,t81];simp only[abS,l0,m.Ae,l1,r2.Ae,l2,e.Ae,j]
 .rw[Ac l];have l0:=w.Ci;obtain⟨h1,x,m,i,d⟩:=C6 w.pb g1;have w1:=w.after i d;have l1:=w1.Ci;obtain⟨h2,v,r2,f,c⟩:=Zg i g1.AL ht.r;have k:=w1.after f c;have l2:=k.Ci;have e:=T6 t av h2;rw[Ap l] at e;obtain⟨u,q,p⟩:=Mf f false;have s:=k.after q p;have l3:=s.Ci;refine⟨_,_,?_,q,(d.trans c).trans p⟩;rw[Ag,gS,t81];simp only[abS,l0,m.Ae,l1,r2.Ae,l2,e.Ae,u,j]
def aKx(w:SW h bi b F si t av)(g:Gz b n o a):Gc h F 155 [.ptr (some (si,0))] (.tuple []) bi (b.E4 t):=by
 unfold BS.E4;cases f:b.has [t.name] with
 |true=>rw[Af rfl];have l0:=w.Ci;have c:=T8 w g t.name;rw[f] at c;obtain⟨h1,j,i,e,d⟩:=j3 w g t.name [];have w1:=w.after e d;have l1:=w1.Ci;refine⟨_,_,?_,e,d⟩;rw[Ag,iD,aAn];simp only[Cx,l0,c.Ae,i.Ae]
 |false=>rw[Ac AB];have l0:=w.Ci;have c:=T8 w g t.name;rw[f] at c;refine⟨_,_,?_,w.pb,.refl⟩;rw[Ag,iD,aAn];simp only[Cx,l0,c.Ae]
def aPG(w:SW h bi b F si t av)(g:Gz b n o a):Gc h F 159 [.ptr (some (si,0))] (.tuple []) bi (b.Gp t):=by
 unfold BS.Gp;cases j:b.has [t.name] with
 |true=>rw[Af rfl];have l0:=w.Ci;have c:=T8 w g t.name;rw[j] at c;obtain⟨h1,p,l,i,e⟩:=j3 w g t.name [];have w1:=w.after i e;have l1:=w1.Ci;obtain⟨_,h2,m,r2,f,d⟩:=je i g.Ds;have k:=w1.after f d;have l2:=k.Ci;refine⟨_,_,?_,f,e.trans d⟩;rw[Ag,iG,aAq];simp only[abS,l0,c.Ae,l.Ae,l1,r2.Ae]
 |false=>rw[Ac AB];have l0:=w.Ci;have c:=T8 w g t.name;rw[j] at c;refine⟨_,_,?_,w.pb,.refl⟩;rw[Ag,iG,aAq];simp only[Cx,l0,c.Ae]
def aPH(w:SW h bi b F si t av)(g:Gz b n o a):Gc h F 158 [.ptr (some (si,0))] (.tuple []) bi b.FB:=by
 have d:Fo h F (h++[.Ef]) F:=⟨AB,λi hi _=>Al hi,λ_ hf=> .inl hf⟩;have j:=Ĉ aGA h;have w:=w.after w.pb.Mo d;unfold BS.FB;have c:=T5 w.pb g 1 (Dg (ws:=Dc)) AA;have e0:b.NU 1 (AG Dc)=b.has Dc:=rfl;rw[e0] at c;cases m:b.has Dc with
 |true=>rw[m] at c;rw[Af rfl];have l0:=w.Ci;obtain⟨_,h1,s,q,l,f⟩:=MV w.pb g [];have w1:=w.after l f;have l1:=w1.Ci;obtain⟨_,h2,r,r2,k,e⟩:=jX l (g.Ky Dd) (Dg (ws:=Dc)) AA;have p:=w1.after k e;have l2:=p.Ci;refine⟨_,_,?_,k,d.trans (f.trans e)⟩;rw[Ag,iF,aAp];simp only[abS,j.Ae,l0,c.Ae,q.Ae,l1,r2.Ae]
 |false=>rw[m] at c;rw[Ac AB];have l0:=w.Ci;refine⟨_,_,?_,w.pb,d⟩;rw[Ag,iF,aAp];simp only[abS,j.Ae,l0,c.Ae]
def aKy(w:SW h bi b F si t av)(g:Gz b n o a):Gc h F 154 [.ptr (some (si,0))] (.bool (b.PM t).2) bi (b.PM t).1:=by
 unfold BS.PM;cases f:b.has [aWz] with
 |true=>rw[Af rfl];have l0:=w.Ci;have c:=T8 w g aWz;rw[f] at c;obtain⟨i,e,d⟩:=GH w.pb 19;have w1:=w.after e d;have l1:=w1.Ci;refine⟨_,_,?_,e,d⟩;rw[Ag,iC,aAm];simp only[abS,l0,c.Ae,i,l1]
 |false=>rw[Ac AB];have l0:=w.Ci;have c:=T8 w g aWz;rw[f] at c;refine⟨_,_,?_,w.pb,.refl⟩;rw[Ag,iC,aAm];simp only[abS,l0,c.Ae]
def aPI(w:SW h bi b F si t av)(g:Gz b n o a):Gc h F 161 [.ptr (some (si,0))] (.tuple []) bi (b.Ju t):=by
 unfold BS.Ju;by_cases i:b.Of;.rw[Af i];have l0:=w.Ci;have e:=SL w.pb g;rw[Ak i] at e;obtain⟨h1,z,f,c,d⟩:=aKx w g;have w1:=w.after c d;have l1:=w1.Ci;refine⟨_,_,?_,c,d⟩;rw[Ag,TS,qc];simp only[abS,l0,e.Ae,f.Ae]
 rw[Ac i];have g1:Gz {b with GO:=0} n o a:=g.eq rfl rfl rfl rfl rfl;by_cases k:b.GO=0;.rw[Ac (by simp[k])];have l0:=w.Ci;have e:=SL w.pb g;rw[Ap i] at e;obtain⟨f,c,d⟩:=jY w.pb 0;have w1:=w.after c d;have l1:=w1.Ci;refine⟨_,_,?_,c,d⟩;rw[Ag,TS,qc];simp only[abS,l0,e.Ae,f,l1,BG k,CY]
 cases s:b.NU 1 (Bt b.GO) with
 |true=>rw[Af ⟨k,rfl⟩];have l0:=w.Ci;have e:=SL w.pb g;rw[Ap i] at e;obtain⟨f,c,d⟩:=jY w.pb 0;have w1:=w.after c d;have l1:=w1.Ci;have j:=pC c g1 1 b.GO;rw[show({b with GO:=0}:BS).NU 1 (Bt b.GO)=true from s] at j;obtain⟨_,h2,y,r2,r,m⟩:=MV c g1 [];have p:=w1.after r m;have l2:=p.Ci;obtain⟨_,h3,x,v,q,l⟩:=Zj r (g1.Ky (lo:=D5 (CJ []) Dh b.Au) Dd) b.GO;have u:=p.after q l;have l3:=u.Ci;refine⟨_,_,?_,q,(d.trans m).trans l⟩;rw[Ag,TS,qc];simp only[abS,l0,e.Ae,f,l1,r2.Ae,l2,v.Ae,k,CY,j.Ae]
 |false=>rw[Ac AB];have l0:=w.Ci;have e:=SL w.pb g;rw[Ap i] at e;obtain⟨f,c,d⟩:=jY w.pb 0;have w1:=w.after c d;have l1:=w1.Ci;have j:=pC c g1 1 b.GO;rw[show({b with GO:=0}:BS).NU 1 (Bt b.GO)=false from s] at j;refine⟨_,_,?_,c,d⟩;rw[Ag,TS,qc];simp only[abS,l0,e.Ae,f,l1,k,CY,j.Ae]
def aKz(w:SW h bi b F si t av)(g:Gz b (n+1004) o a)(ht:t.Sm)(hv:Bw t.As av)(i:¬t.st [aWu]):Gc h F 129 [.ptr (some (si,0))] (.bool (b.De t).2) bi (b.De t).1:=by have l0:=w.Ci;obtain⟨h1,j,f,d,c⟩:=j2 w.pb g ht hv (λe=>absurd e i);have w1:=w.after d c;have l1:=w1.Ci;refine⟨_,_,?_,d,c⟩;rw[Ag,zJ,aEm];simp only[abS,l0,f.Ae]
def aPJ(w:SW h bi b F si t av)(g:Gz b (n+8*(4*(o+8)+10)) o a):Gc h F 156 [.ptr (some (si,0))] (.tuple []) bi (b.C1 t.name):=by have l0:=w.Ci;obtain⟨h1,f,e,d,c⟩:=Zi w.pb g t.name;have w1:=w.after d c;have l1:=w1.Ci;refine⟨_,_,?_,d,c⟩;rw[Ag,zT,aEw];simp only[abS,l0,e.Ae]
def aPK(x:Aa):Cy cx 137 [x] h ff h:=by rw[Ag,zP,aEs];simp only[Cx]
def aPL(w:SW h bi b F si t av)(g:Gz b (n+4) o a):Gc h F 160 [.ptr (some (si,0))] (.tuple []) bi (b.HG t):=by
 unfold BS.HG;dsimp only;by_cases f:t.name=[112]
 .rw[Af f,Af f];have c:=T5 w.pb g 3 (Dg (ws:=[t.name])) AB;cases i:b.NU 3 (AG [t.name]) with
  |true=>rw[i] at c;rw[Af rfl];have l0:=w.Ci;obtain⟨h1,l,j,e,d⟩:=j3 w g t.name t.name;have w1:=w.after e d;have l1:=w1.Ci;refine⟨_,_,?_,e,d⟩;rw[Ag,PF,oE];simp only[abS,l0,j.Ae,BG f,c.Ae,pH]
  |false=>rw[i] at c;rw[Ac AB];have l0:=w.Ci;have r:=ĉ [112] h;obtain⟨h1,l,j,e,d⟩:=Fp (t:=JV [112]) (av:= .slnil) w.pb g (J3 AA) (.inr ⟨rfl,rfl⟩);have w1:=w.after e d;have l1:=w1.Ci;obtain⟨h2,s,r2,p,m⟩:=j3 w1 (g.Mm (J3 AA).As (J3 AA).name) t.name t.name;have q:=w1.after p m;have l2:=q.Ci;refine⟨_,_,?_,p,d.trans m⟩;rw[Ag,PF,oE];simp only[abS,l0,r.Ae,j.Ae,r2.Ae,BG f,c.Ae,pH,CY,DI]
 rw[Ac f,Ac f];by_cases k:t.name=[108,105]
 .rw[Af k];have c:=T5 w.pb g 2 (Dg (ws:=[t.name])) AB;cases i:b.NU 2 (AG [t.name]) with
  |true=>rw[i] at c;rw[Af rfl];have l0:=w.Ci;obtain⟨h1,l,j,e,d⟩:=j3 w g t.name t.name;have w1:=w.after e d;have l1:=w1.Ci;refine⟨_,_,?_,e,d⟩;rw[Ag,PF,oE];simp only[abS,l0,j.Ae,f,BG k,c.Ae,pH]
  |false=>rw[i] at c;rw[Ac AB];have l0:=w.Ci;refine⟨_,_,?_,w.pb,.refl⟩;rw[Ag,PF,oE];simp only[abS,l0,eq_false f,c.Ae,BG k,pH,CY]
 .rw[Ac k];have c:=T5 w.pb g 1 (Dg (ws:=[t.name])) AB;cases i:b.NU 1 (AG [t.name]) with
  |true=>rw[i] at c;rw[Af rfl];have l0:=w.Ci;obtain⟨h1,l,j,e,d⟩:=j3 w g t.name t.name;have w1:=w.after e d;have l1:=w1.Ci;refine⟨_,_,?_,e,d⟩;rw[Ag,PF,oE];simp only[abS,l0,j.Ae,f,k,c.Ae,pH]
  |false=>rw[i] at c;rw[Ac AB];have l0:=w.Ci;refine⟨_,_,?_,w.pb,.refl⟩;rw[Ag,PF,oE];simp only[abS,l0,f,c.Ae,k,pH,CY]
def SW.aGC(w:SW h bi b F si t av)(t':DF)(sj:Aa):C9 h 12 (.ptr (some (si,1))) (.agg (CE t' sj))=some (h.set si (.cells (.ptr (some (bi,0))::CE t' sj)))/\SW (h.set si (.cells (.ptr (some (bi,0))::CE t' sj))) bi b F si t' sj/\Fo h (λi=>F i\/i=si) (h.set si (.cells (.ptr (some (bi,0))::CE t' sj))) (λi=>F i\/i=si):=by
 have hl:=(Aj.1 w.sc).1;refine⟨by simp only[C9,w.sc];rfl,⟨w.pb.FM λi hi=>?_,by rw[AI hl],w.no⟩,⟨AB,λi _ hn=>?_,λ_ h=> .inl h⟩⟩;.exact Aq λe=>w.no (by rw[show si=i from e];exact hi)
 .exact Aq λe=>hn (.inr (show i=si from e.symm))
def aPM(w:SW h bi b F si t av)(g:Gz b (n+4*a+4) o a):đ h F si 162 [.ptr (some (si,0))] (.tuple []) bi (b.empty (JV [98,114])):=by have f:=ĉ [98,114] h;obtain⟨s0,w,d⟩:=w.aGC (JV [98,114]) .slnil;obtain⟨h1,j,e,i,c⟩:=aKv w g (J3 AA) (.inr ⟨rfl,rfl⟩);refine⟨h1,j,?_,i,d.trans c⟩;rw[Ag,zU,aEx];simp only[Cx,f.Ae,s0,e.Ae]
def aKA{c n:Nat}{m:Option Nat}{ps:List PN}{A:Ar}{e x:Int}(w:PA h c n m ps A)(j:NB A)(ok:EA A e)(hx:A.has x):
  ∃h' PI,Cy cx 211 [.ptr (some (c,0)),.int .i64 x] h (.int .i64 0) h'/\PA h' c n m PI (A.cut x)/\Fo h (λi=>i∈Gb c n m ps) h' (λi=>i∈Gb c n m PI):=by
 have d:=SD (x:=x) w;rw[Af hx] at d;obtain⟨h1,aD,g,w1,f⟩:=aCp w j ok hx;refine⟨h1,aD,?_,w1,f⟩;rw[Ag,br,aE4];simp only[abS,GW,d.Ae,g.Ae,CY]
def aKB(w:PB h bi b F)(g:Gz b n o a){x:Int}(hx:b.a.has x):∃d,Bn h none (.ptr (some (bi,0)))=some (.ptr (some (d,0)))/\Gc h F 211 [.ptr (some (d,0)),.int .i64 x] (.int .i64 0) bi {b with a:=b.a.cut x}:=by
 obtain⟨d,i,c,tt,G,w,hc,rfl⟩:=w;obtain⟨h',j,r,w',x'⟩:=w.step (R:=λh'=>Cy cx 211 [.ptr (some (d,0)),.int .i64 x] h (.int .i64 0) h') λn m ps f=>by obtain⟨h1,aD,r,w1,e⟩:=aKA f g.rm.Wk g.ok.ok hx;exact⟨h1,n,m,aD,r,w1,e⟩
 exact⟨d,w.l0,h',_,r,⟨d,i,c,tt,j,w',hc,rfl⟩,x'⟩
def aPN(w:SW h bi b F si t av)(g:Gz b (n+4) o a)(ht:t.Sm)(hv:Bw t.As av):Gc h F 144 [.ptr (some (si,0))] (.tuple []) bi (b.Jt t):=by
 unfold BS.Jt;cases f:b.My with
 |false=>rw[Af (.inl rfl)];have l0:=w.Ci;have c:=Ē w;rw[f] at c;refine⟨_,_,?_,w.pb,.refl⟩;rw[Ag,WQ,Ì];simp only[abS,l0,c.Ae]
 |true=>
 rcases Bool.eq_false_or_eq_true b.fs with m|m
 rotate_left;.rw[Af (.inr m)];have l0:=w.Ci;have c:=Ē w;rw[f] at c;rw[m] at l0;refine⟨_,_,?_,w.pb,.refl⟩;rw[Ag,WQ,Ì];simp only[abS,l0,c.Ae]
 .rw[Ac (by simp[m])];have hi:=g.ok.op _ (VP f);have l0:=w.Ci;rw[m] at l0;have c:=Ē w;rw[f] at c;obtain⟨H,E,h1,u,C,x,v⟩:=aKB w.pb g hi.1;have w1:=w.after x v;have g1:Gz {b with a:=b.a.cut (El b.Au 1).node} (n+4) o a:=⟨g.ok.IP (gL g.ok.ok hi.1 (by rw[hi.2.1];decide)) tO,g.rm.IP pA,g.Au,g.A4⟩;have aUX:2<=b.Au.length:=by unfold BS.My at f;simp only[Bb,Ct] at f;exact f.1
  have Qa:Ev cx 144 [.ptr (some (si,0))] h λr h'=>r= .tuple []/\∃F',PB h' bi {({b with a:=b.a.cut (El b.Au 1).node,Au:=b.Au.take 1}:BS).CU t with mode:=20} F'/\Fo h F h' F':=by
   unfold Ev;rw[WQ,Ì];simp only[abS,l0,c.Ae,E,C.Ae];refine F0 (i:=0) (λn:Nat=>[]) (λn h2=>1<=n/\n<=b.Au.length/\∃d,PB h2 bi {b with a:=b.a.cut (El b.Au 1).node,Au:=b.Au.take n} d/\Fo h1 u h2 d) (λn=>n) (λn h2=>∃d,PB h2 bi {b with a:=b.a.cut (El b.Au 1).node,Au:=b.Au.take 1} d/\Fo h1 u h2 d) b.Au.length rfl ⟨Ab,Ad _,u,by rw[Bk];exact x,.refl⟩ ?_ ?_
   .rintro j h2 ⟨Te,hn,d,e,k⟩;have q:=w1.after e k;have l2:=q.Ci;have ln:=Zk e;have el:(b.Au.take j).length=j:=by rw[Ay];omega
    simp only[el] at ln;have g2:Gz {b with a:=b.a.cut (El b.Au 1).node,Au:=b.Au.take j} (n+4) (o+1) a:=(g1.le Ab Ab (Ad _)).Ky (Cf _ _);by_cases hk:j=1;.subst hk;simp only[abS,l2,ln.Ae,(AA:¬(1:Int)<((1:Nat):Int))];exact .Jz 1 rfl ⟨d,e,k⟩
    .obtain⟨h3,y,s,l,p⟩:=P6 e g2;have G:({b with a:=b.a.cut (El b.Au 1).node,Au:=b.Au.take j}:BS).FY={b with a:=b.a.cut (El b.Au 1).node,Au:=b.Au.take (j-1)}:=by unfold BS.FY;simp only[el];rw[Ac Ab,CI,BO Ab]
     rw[G] at l;simp only[abS,l2,ln.Ae,(Ab:(1:Int)<(j:Int)),s.Ae];exact .next (j-1) rfl ⟨Ab,Ab,y,l,k.trans p⟩ Ab
   .rintro j h2 ⟨d,e,k⟩;have q:=w1.after e k;have l2:=q.Ci;have g2:Gz {b with a:=b.a.cut (El b.Au 1).node,Au:=b.Au.take 1} (n+4) o a:=g1.Ky (Cf _ _);obtain⟨h3,y,s,l,p⟩:=Fp e g2 ht hv;have A:=q.after l p;have l3:=A.Ci;obtain⟨B,D,z⟩:=GH l 20;simp only[abS,l2,s.Ae,l3,B];exact⟨_,rfl,rfl,_,D,((v.trans k).trans p).trans z⟩
  obtain⟨r,h',hr,rfl,F',hp,hx⟩:=Qa.ret;exact⟨h',F',hr,hp,hx⟩
end
def kr(p:Ah×Aa):Aa×Aa:=(.str p.1,p.2)
def kf(s:Ah):List (Ah×Aa)->Option Aa
 |[]=>none
 |(t,v)::l=>if s=t then some v else kf s l
def kp(s:Ah)(v:Aa):List (Ah×Aa)->List (Ah×Aa)
 |[]=>[(s,v)]
 |(t,u)::l=>if s=t then(s,v)::l else(t,u)::kp s v l
def aCF{s t:Ah}{v:Aa}:∀{l:List (Ah×Aa)},kf t (kp s v l)=if t=s then some v else kf t l
 |[]=>rfl
 |(x,u)::l=>by
  unfold kp;by_cases h:s=x;.rw[Af h];unfold kf;subst h;split<;>rfl
  .rw[Ac h];unfold kf;rw[aCF];by_cases h1:t=x;.subst h1;rw[Af rfl,Af rfl,Ac (CZ h)]
   .rw[Ac h1,Ac h1]
def pL{s:Ah}:∀{l:List (Ah×Aa)},S1 s (l.map kr)=some (kf s l)
 |[]=>rfl
 |(x,u)::l=>by
  simp only[Bj,kr,S1,kf];split;.rfl
  .exact pL
def jm{s:Ah}{v:Aa}:∀{l:List (Ah×Aa)},Oh s v (l.map kr)=some ((kp s v l).map kr)
 |[]=>rfl
 |(x,u)::l=>by
  simp only[Bj,kr,Oh,kp];split;.rfl
  .rw[show(List.map kr l)=l.map kr from rfl,jm];rfl
def dR{s:Ah}:∀{l:List (Ah×Aa)} {i:Nat},kf s l=none->Sa s (l.map kr) i=some none
 |[],_,_=>rfl
 |(x,u)::l,i,h=>by
  unfold kf at h;by_cases e:s=x;.rw[Af e] at h;cases h
  .rw[Ac e] at h;simp only[Bj,kr,Sa,Ac e];exact dR h
def ē{s t:Ah}{v:Aa}:∀{l:List (Ah×Aa)},kf s l=none->kf t (l++[(s,v)])=if t=s then some v else kf t l
 |[],_=>rfl
 |(x,u)::l,h=>by
  unfold kf at h;by_cases e:s=x;.rw[Af e] at h;cases h
  .rw[Ac e] at h;simp only[B8,kf];rw[ē h];by_cases a:t=x;.subst a;rw[Af rfl,Af rfl,Ac (CZ e)]
   .rw[Ac a,Ac a]
def KM(h:Ai)(id:Nat)(d:Ah->Option Aa):Prop:=∃l,h[id]?=some (.map (l.map kr))/\∀s,kf s l=d s
def Fr(id:Nat)(h h':Ai):Prop:=h.length<=h'.length/\∀i,i<h.length->i≠id->h'[i]?=h[i]?
def Fr.refl{id:Nat}{h:Ai}:Fr id h h:=⟨Ad _,λ_ _ _=>rfl⟩
def Fr.trans{id:Nat}{h h1 h2:Ai}(a:Fr id h h1)(b:Fr id h1 h2):Fr id h h2:=⟨Bv a.1 b.1,λi hi hn=>(b.2 i (JI hi a.1) hn).trans (a.2 i hi hn)⟩
def Fr.set{id:Nat}{h:Ai}{o:GJ}:Fr id h (h.set id o):=⟨AB,λi _ hn=>Aq (CZ hn)⟩
def Fr.Mo{id:Nat}{h u:Ai}:Fr id h (h++u):=⟨AB,λi hi _=>Al hi⟩
section
variable{h:Ai}{id:Nat}{d:Ah->Option Aa}{s:Ah}{v:Aa}
def KM.lt(w:KM h id d):id<h.length:=let⟨_,hl,_⟩:=w;(Aj.1 hl).1
def KM.Mo{u:Ai}(w:KM h id d):KM (h++u) id d:=let⟨l,hl,hd⟩:=w;⟨l,by rw[Al w.lt];exact hl,hd⟩
def KM.set(w:KM h id d)(s:Ah)(v:Aa):∃h1,RN h (.map (some id)) (.str s) v=some h1/\KM h1 id (λt=>if t=s then some v else d t)/\Fr id h h1:=by have hlt:=w.lt;obtain⟨l,hl,hd⟩:=w;refine⟨h.set id (.map ((kp s v l).map kr)),by simp only[RN,hl,jm,BV],⟨kp s v l,by rw[AI hlt],λt=>?_⟩,.set⟩;rw[aCF];simp only[hd]
def KM.get(w:KM h id d)(s:Ah):PV h .nilFunc false (.map (some id)) (.str s)=some ((d s).getD .nilFunc):=by obtain⟨l,hl,hd⟩:=w;simp only[PV,Uq,hl,pL,BV,hd];cases d s<;>rfl
def KM.entry(w:KM h id d)(s:Ah)(hs:d s=none)(v:Aa):∃h0 h1 n v0,Eu (.Xk .nilFunc) h [.map (some id),.str s]=some (h0,.tuple [v0,.int .i64 n])/\Eu .Ld h0 [.map (some id),.int .i64 n,v]=some (h1,.bool true)/\KM h1 id (λt=>if t=s then some v else d t)/\Fr id h h1:=by
 have hlt:=w.lt;obtain⟨l,hl,hd⟩:=w;have h0:kf s l=none:=(hd s).trans hs;refine⟨h.set id (.map (l.map kr++[(.str s,.nilFunc)])),h.set id (.map ((l++[(s,v)]).map kr)),(l.map kr).length,.nilFunc,?_,?_,⟨l++[(s,v)],by rw[AI hlt],λt=>?_⟩,.set⟩;.simp only[Eu,Wz,hl,dR h0,BV]
 .simp only[Eu,S2,AI hlt,BF,Int.natCast_nonneg,BN,Bu (Ad _),E9,Ji,Nu,Cc _ _ (Ad _),lB,Cg,Bj,DM,kr]
 .rw[ē h0];simp only[hd]
def lk:List (List Ah×Aa)->Ah->Option Aa
 |[],_=>none
 |(ws,v)::l,s=>if s∈ws then some v else lk l s
def KM.eq{a:Ah->Option Aa}(w:KM h id d)(e:∀s,d s=a s):KM h id a:=let⟨l,hl,hd⟩:=w;⟨l,hl,λs=>(hd s).trans (e s)⟩
def KM.push{L:List (List Ah×Aa)}(w:KM h id (λt=>if t=s then some v else lk L t)):KM h id (lk (([s],v)::L)):=w.eq λt=>by simp only[lk,Bq]
def PR{l:Ah}{ws:List Ah}{L:List (List Ah×Aa)}(x:K9 l ws)(w:KM h id (lk L))(fv:Aa):∃h1,Cy cx 128 [.map (some id),.str l,fv] h (.tuple []) h1/\KM h1 id (lk ((ws,fv)::L))/\Fr id h h1:=by
 have hf:=x.few;have Qa:Ev cx 128 [.map (some id),.str l,fv] h λr h1=>r= .tuple []/\KM h1 id (lk ((ws,fv)::L))/\Fr id h h1:=by
  unfold Ev;rw[zI,aEl];have hv:IB ws (.sl 1 (ws.map Cv)):=Dg;have hl:(ws.map Cv).length=ws.length:=Aw ..;simp only[Cx,(Ĉ x h).Ae,BB.GN hv];refine F0 (i:=0) (λn:Nat=>[.int .i64 (n:Int)]) (λn h1=>n<=ws.length/\KM h1 id (λs=>if s∈ws.take n then some fv else lk L s)/\Fr id h h1) (λn=>ws.length-n) (λn h1=>KM h1 id (lk ((ws,fv)::L))/\Fr id h h1) 0 rfl ⟨Bp _,w.Mo.eq λs=>AB,.Mo⟩ ?_ ?_
  .rintro n h1 ⟨hn,a,f1⟩;by_cases hlt:n<ws.length
   .have f:(ws.map Cv)[n]'(by rw[hl];exact hlt)=[.str ws[n]]:=by simp[Cv]
    obtain⟨h2,c,e,f2⟩:=a.set ws[n] fv;simp only[Cx,fX,(Ab:(n:Int)<(ws.length:Int)),BB.GY hv (show n<(ws.map Cv).length by rw[hl];exact hlt),f,c,Dw (Ab:n<9223372036854775807)];exact .next (n+1) rfl ⟨hlt,e.eq λs=>by
     simp only[Bd hlt,An,Bq];by_cases b:s=ws[n];.simp[b]
     .simp[b],f1.trans f2⟩ Ab
   .simp only[abS,(Ab:¬(n:Int)<(ws.length:Int))];exact .Jz n rfl ⟨a.eq λs=>by rw[Bf Ab];rfl,f1⟩
  .rintro n h1 ⟨a,f1⟩;simp only[Cx];exact⟨_,rfl,rfl,a,f1⟩
 obtain⟨r,h1,hr,rfl,a,f1⟩:=Qa.ret;exact⟨h1,hr,a,f1⟩
def qf(k:Nat):Aa:= .func (.func 201) [] [.B9 [.func (.func k) [] []]]
def Mh(k:Nat)(h:Ai):Cy cx 130 [.func (.func k) [] []] h (qf k) h:=by rw[Ag,zK,aEn];simp only[Cx,qf]
def aKC{k:Nat}{x:Aa}{h':Ai}(hk:k<=99999)(r:Cy cx k [x] h (.tuple []) h'):Cy cx 201 [x,.B9 [.func (.func k) [] []]] h ff h':=by rw[Ag,bg,aEW];simp only[Cx,CN,Bg,Af hk,r.Ae]
def EE:List (List Ah×Aa):=[(F6,.func (.func 129) [] []),(jR,qf 131),(Dc,qf 132),(aA4,qf 133),(rj,qf 134),(Wt,qf 135),(jS,qf 136),(iw,.func (.func 137) [] []),(o9,qf 138),(ix,qf 139),(aA5,qf 140),(iy,qf 141),(aA6,qf 142),(QW,qf 143),([aWA],qf 144),([aWU],qf 145),([aWx],qf 146),([[97]],qf 147),([aWT],qf 148),([aWL],qf 149),([aW6],qf 150)]
def aPO(h:Ai):∃h1,Cy cx 83 [] h (.map (some h.length)) h1/\KM h1 h.length (lk EE.reverse)/\Fr h.length h h1:=by
 have k0:KM (h++[.map []]) h.length (lk []):=⟨[],AB,λs=>rfl⟩;have e0:Fr h.length h (h++[.map []]):= .Mo;obtain⟨h1,L,k1,e1⟩:=PR (NV Ed:K9 aWt F6) k0 (.func (.func 129) [] []);try dsimp only at L
 obtain⟨h2,r2,Z,e2⟩:=PR (NV Ed:K9 aWv jR) k1 (qf 131);try dsimp only at r2
 obtain⟨h3,K,Y,e3⟩:=PR (NV Ed:K9 aWI Dc) Z (qf 132);try dsimp only at K
 obtain⟨h4,J,X,e4⟩:=PR (NV Ed:K9 aXS aA4) Y (qf 133);try dsimp only at J
 obtain⟨h5,I,W,e5⟩:=PR (NV Ed:K9 aWJ rj) X (qf 134);try dsimp only at I
 obtain⟨h6,H,V,e6⟩:=PR (NV Ed:K9 aWN Wt) W (qf 135);try dsimp only at H
 obtain⟨h7,G,U,e7⟩:=PR (NV Ed:K9 aWB jS) V (qf 136);try dsimp only at G
 obtain⟨h8,F,T,e8⟩:=PR (NV Ed:K9 aWC iw) U (.func (.func 137) [] []);try dsimp only at F
 obtain⟨h9,E,S,e9⟩:=PR (NV Ed:K9 aWS o9) T (qf 138);try dsimp only at E
 obtain⟨YV,g,O1,D⟩:=PR (NV Ed:K9 aXT ix) S (qf 139);try dsimp only at g
 obtain⟨RI,f,Un,C⟩:=PR (NV Ed:K9 aYi aA5) O1 (qf 140);try dsimp only at f
 obtain⟨Ŀ,e,VR,B⟩:=PR (NV Ed:K9 aYj iy) Un (qf 141);try dsimp only at e
 obtain⟨h13,c,dP,A⟩:=PR (NV Ed:K9 aXB aA6) VR (qf 142);try dsimp only at c
 obtain⟨h14,b,Zm,z⟩:=PR (NV Ed:K9 aYb QW) dP (qf 143);try dsimp only at b
 obtain⟨R,h15,P,N,o,t15,pM,y⟩:=Zm.entry aWA Ed (qf 144);replace pM:=pM.push;obtain⟨h16,n,jn,x⟩:=pM.set aWU (qf 145);replace jn:=jn.push;obtain⟨h17,m,sk,w⟩:=jn.set aWx (qf 146);replace sk:=sk.push;obtain⟨Q,h18,O,M,l,t18,lM,u⟩:=sk.entry [97] Ed (qf 147);replace lM:=lM.push;obtain⟨h19,k,Ĕ,t⟩:=lM.set aWT (qf 148);replace Ĕ:=Ĕ.push;obtain⟨h20,j,vd,r⟩:=Ĕ.set aWL (qf 149);replace vd:=vd.push;obtain⟨p,i,a,q⟩:=vd.set aW6 (qf 150);replace a:=a.push;refine⟨p,?_,a,((((((((((((((((((((e0.trans e1).trans e2).trans e3).trans e4).trans e5).trans e6).trans e7).trans e8).trans e9).trans D).trans C).trans B).trans A).trans z).trans y).trans x).trans w).trans u).trans t).trans r).trans q⟩;rw[Ag,Â,t83];simp only[abS,Nat.reduceLeDiff,↓reduceIte,L.Ae,r2.Ae,(Mh 131 _).Ae,K.Ae,(Mh 132 _).Ae,J.Ae,(Mh 133 _).Ae,I.Ae,(Mh 134 _).Ae,H.Ae,(Mh 135 _).Ae,G.Ae,(Mh 136 _).Ae,F.Ae,E.Ae,(Mh 138 _).Ae,g.Ae,(Mh 139 _).Ae,f.Ae,(Mh 140 _).Ae,e.Ae,(Mh 141 _).Ae,c.Ae,(Mh 142 _).Ae,b.Ae,(Mh 143 _).Ae,o,t15,(Mh 144 _).Ae,n,(Mh 145 _).Ae,m,(Mh 146 _).Ae,l,t18,(Mh 147 _).Ae,k,(Mh 148 _).Ae,j,(Mh 149 _).Ae,i,(Mh 150 _).Ae]
def Qc:List (List Ah×Aa):=[([aWw],.func (.func 129) [] []),([aWz],.func (.func 154) [] []),([aWu],.func (.func 154) [] []),(QX,qf 155),(ü,qf 156),(Dc,qf 158),(Wt,qf 159),(Y9,qf 160),([aWU],qf 161),([[98,114]],qf 162)]
def aPQ(h:Ai):∃h1,Cy cx 85 [] h (.map (some h.length)) h1/\KM h1 h.length (lk Qc.reverse)/\Fr h.length h h1:=by
 have y:KM (h++[.map []]) h.length (lk []):=⟨[],AB,λs=>rfl⟩;have e0:Fr h.length h (h++[.map []]):= .Mo;obtain⟨h1,q,f,H⟩:=y.set aWw (.func (.func 129) [] []);replace f:=f.push;obtain⟨h2,p,e,G⟩:=f.set aWz (.func (.func 154) [] []);replace e:=e.push;obtain⟨h3,o,c,F⟩:=e.set aWu (.func (.func 154) [] []);replace c:=c.push;obtain⟨N,m,x,E⟩:=PR (NV Ed:K9 aWs QX) c (qf 155);try dsimp only at m
 obtain⟨M,l,w,D⟩:=PR (NV Ed:K9 aWD ü) x (qf 156);try dsimp only at l
 obtain⟨L,k,u,C⟩:=PR (NV Ed:K9 aWI Dc) w (qf 158);try dsimp only at k
 obtain⟨K,j,t,B⟩:=PR (NV Ed:K9 aWN Wt) u (qf 159);try dsimp only at j
 obtain⟨J,i,r,A⟩:=PR (NV Ed:K9 aX5 Y9) t (qf 160);try dsimp only at i
 obtain⟨I,n,b,z⟩:=r.set aWU (qf 161);replace b:=b.push;obtain⟨YV,a,O1,g⟩:=b.set [98,114] (qf 162);replace O1:=O1.push;refine⟨YV,?_,O1,(((((((((e0.trans H).trans G).trans F).trans E).trans D).trans C).trans B).trans A).trans z).trans g⟩;rw[Ag,Ä,t85];simp only[abS,Nat.reduceLeDiff,↓reduceIte,q,p,o,m.Ae,(Mh 155 _).Ae,l.Ae,(Mh 156 _).Ae,k.Ae,(Mh 158 _).Ae,j.Ae,(Mh 159 _).Ae,i.Ae,(Mh 160 _).Ae,n,(Mh 161 _).Ae,a,(Mh 162 _).Ae]
def ĕ:∀{L M:List (List Ah×Aa)},lk (L++M) s=(lk L s).or (lk M s)
 |[],M=>by simp[lk]
 |(ws,v)::L,M=>by
  simp only[B8,lk];split;.rfl
  .exact ĕ
def jo:∀{L:List (List Ah×Aa)},(∀g∈L,s∉g.1)->lk L s=none
 |[],_=>rfl
 |(ws,v)::L,h=>by simp only[lk];rw[Ac (h (ws,v) (.head _))];exact jo λg hg=>h g (.tail _ hg)
def vD:∀{L:List (List Ah×Aa)},L.Pairwise (λa b=>∀x∈a.1,x∉b.1)->lk L.reverse s=lk L s
 |[],_=>rfl
 |(ws,v)::L,h=>by
  cases h with
  |cons h1 h2=>
   rw[ES,ĕ,vD h2];simp only[lk];by_cases c:s∈ws;.rw[Af c,Af c,jo λg hg=>h1 g hg s c];rfl
   .rw[Ac c,Ac c];cases lk L s<;>rfl
def Ė:lk EE.reverse s=lk EE s:=vD Ed
def aGE:lk Qc.reverse s=lk Qc s:=vD Ed
end
section
variable{h h':Ai}{bi si:Nat}{b b':BS}{F F':Nat->Prop}{n o a:Nat}{t:DF}{av:Aa}
def FU(bi:Nat)(t:DF)(av:Aa):GJ:= .cells (.ptr (some (bi,0))::CE t av)
def SW.new(w:PB h bi b F)(t:DF)(av:Aa):SW (h++[FU bi t av]) bi b F h.length t av:=
 ⟨w.Mo,by simp[FU],λhf=>DH _ (w.lt hf)⟩
def SW.fr(w:SW h bi b F si t av){id:Nat}(Jk:h.length<=id)(f:Fr id h h'):SW h' bi b F si t av:=by have hl:=(Aj.1 w.sc).1;exact⟨w.pb.FM λi hi=>f.2 i (w.pb.lt hi) (by have:=w.pb.lt hi;omega),by rw[f.2 si hl Ab];exact w.sc,w.no⟩
def KT{k h2:Ai}{id:Nat}{x:GJ}(Jk:(h++[x]).length<=id)(f:Fr id (h++[x]) k)(e:Fo k (λi=>F i\/i=h.length) h2 (λi=>F' i\/i=h.length)):Fo h F h2 F':=by
 have l1:(h++[x]).length=h.length+1:=AB;have l2:=f.1;have l3:=e.len;refine⟨Ab,λi hi hn=>?_,λi hf=>?_⟩;.rw[e.old i Ab (λh=>by rcases h with h|h;exact hn h;omega),f.2 i Ab Ab,Al hi]
 .rcases e.BT i (.inl hf) with(h1|h1)|h1
  .exact .inl h1
  .exact .inr Ab
  .exact .inr Ab
def vE(h0:Ai):∃h1,Cy cx 83 [] h0 (.map (some h0.length)) h1/\Fr h0.length h0 h1/\∀s,PV h1 .nilFunc false (.map (some h0.length)) (.str s)=some ((lk EE s).getD .nilFunc):=by obtain⟨h1,r,k,f⟩:=aPO h0;exact⟨h1,r,f,λs=>by rw[k.get,Ė]⟩
def aGF(h0:Ai):∃h1,Cy cx 85 [] h0 (.map (some h0.length)) h1/\Fr h0.length h0 h1/\∀s,PV h1 .nilFunc false (.map (some h0.length)) (.str s)=some ((lk Qc s).getD .nilFunc):=by obtain⟨h1,r,k,f⟩:=aPQ h0;exact⟨h1,r,f,λs=>by rw[k.get,aGE]⟩
def aJ{k:Int}(hk:t.k=k)(h:1<=k/\k<=6):t.ok:=by unfold DF.ok;omega
def PS{k:Nat}{x y:List Aa}:AH (.Gf true .fn) [.func (.func k) x y,.nilFunc]=some tt:=rfl
def Zn:AH (.Gf true .fn) [.nilFunc,.nilFunc]=some ff:=rfl
def OQ(w:PB h bi b F)(hk:t.k=2){k:Nat}(e:lk EE t.name=some (qf k))(g:k<=99999)(d:∀h1,SW h1 bi b F h.length t av->đ h1 F h.length k [.ptr (some (h.length,0))] (.tuple []) bi b'):Gc h F 51 [.ptr (some (bi,0)),.agg (CE t av)] ff bi b':=by have w0:=SW.new w t av;obtain⟨h1,i,f1,g1⟩:=vE (h++[FU bi t av]);have w1:=w0.fr (Ad _) f1;obtain⟨h2,m,r2,l,j⟩:=d h1 w1;have f:=KA w t av;rw[Ak (aJ hk AA)] at f;have c:=g1 t.name;rw[e] at c;refine⟨h2,m,?_,l,KT (Ad _) f1 j⟩;rw[Ag,Lx,t51];simp only[FU,CE,hk,Ao,AK,AW] at i f c;simp only[abS,Nat.reduceLeDiff,↓reduceIte,Cl,CE,PS,f.Ae,hk,(AA:¬(2:Int)=5),(AA:¬(2:Int)=4),(AA:¬(2:Int)=6),i.Ae,c,Fq,qf,CN,Bg,(aKC g r2).Ae]
def aKD(w:PB h bi b F)(hk:t.k=2){k:Nat}{r:Bool}(e:lk EE t.name=some (.func (.func k) [] []))(g:k<=99999)(d:∀h1,SW h1 bi b F h.length t av->Gc h1 F k [.ptr (some (h.length,0))] (.bool r) bi b'):Gc h F 51 [.ptr (some (bi,0)),.agg (CE t av)] (.bool r) bi b':=by have w0:=SW.new w t av;obtain⟨h1,i,f1,g1⟩:=vE (h++[FU bi t av]);have w1:=w0.fr (Ad _) f1;obtain⟨h2,m,r2,l,j⟩:=(d h1 w1).MR (si:=h.length);have f:=KA w t av;rw[Ak (aJ hk AA)] at f;have c:=g1 t.name;rw[e] at c;refine⟨h2,m,?_,l,KT (Ad _) f1 j⟩;rw[Ag,Lx,t51];simp only[FU,CE,hk,Ao,AK,AW] at i f c;simp only[abS,Nat.reduceLeDiff,↓reduceIte,Cl,CE,PS,f.Ae,hk,(AA:¬(2:Int)=5),(AA:¬(2:Int)=4),(AA:¬(2:Int)=6),i.Ae,c,Fq,CN,Bg,g,r2.Ae]
def aPR(w:PB h bi b F)(g:Gz b (n+4*a+4) o a)(ht:t.Sm)(hv:Bw t.As av)(hk:t.k=2)(e:lk EE t.name=none):Gc h F 51 [.ptr (some (bi,0)),.agg (CE t av)] ff bi (b.AL.CU t):=by have w0:=SW.new w t av;obtain⟨h1,i,f1,g1⟩:=vE (h++[FU bi t av]);have w1:=w0.fr (Ad _) f1;have j:Gz b (n+4+4*a) o a:=g.dn Ab;obtain⟨h2,s,r2,q,m⟩:=C6 w1.pb j;obtain⟨h3,r,f,p,l⟩:=Fp q j.AL ht hv;have d:=KA w t av;rw[Ak (aJ hk AA)] at d;have c:=g1 t.name;rw[e] at c;refine⟨h3,r,?_,p,KT (Ad _) f1 (m.trans l).pI⟩;rw[Ag,Lx,t51];simp only[FU,CE,hk,Ao,AK,AW] at i d c f;simp only[abS,Nat.reduceLeDiff,↓reduceIte,Cl,CE,Zn,d.Ae,hk,(AA:¬(2:Int)=5),(AA:¬(2:Int)=4),(AA:¬(2:Int)=6),i.Ae,c,wE,r2.Ae,f.Ae]
def vF(w:PB h bi b F)(hk:t.k=3){k:Nat}(e:lk Qc t.name=some (qf k))(g:k<=99999)(d:∀h1,SW h1 bi b F h.length t av->đ h1 F h.length k [.ptr (some (h.length,0))] (.tuple []) bi b'):Gc h F 51 [.ptr (some (bi,0)),.agg (CE t av)] ff bi b':=by have w0:=SW.new w t av;obtain⟨h1,i,f1,g1⟩:=aGF (h++[FU bi t av]);have w1:=w0.fr (Ad _) f1;obtain⟨h2,m,r2,l,j⟩:=d h1 w1;have f:=KA w t av;rw[Ak (aJ hk AA)] at f;have c:=g1 t.name;rw[e] at c;refine⟨h2,m,?_,l,KT (Ad _) f1 j⟩;rw[Ag,Lx,t51];simp only[FU,CE,hk,Ao,AK,AW] at i f c;simp only[abS,Nat.reduceLeDiff,↓reduceIte,Cl,CE,PS,f.Ae,hk,(AA:¬(3:Int)=5),(AA:¬(3:Int)=4),(AA:¬(3:Int)=6),(AA:¬(3:Int)=2),i.Ae,c,Fq,qf,CN,Bg,(aKC g r2).Ae]
def aGG(w:PB h bi b F)(hk:t.k=3){k:Nat}{r:Bool}(e:lk Qc t.name=some (.func (.func k) [] []))(g:k<=99999)(d:∀h1,SW h1 bi b F h.length t av->Gc h1 F k [.ptr (some (h.length,0))] (.bool r) bi b'):Gc h F 51 [.ptr (some (bi,0)),.agg (CE t av)] (.bool r) bi b':=by have w0:=SW.new w t av;obtain⟨h1,i,f1,g1⟩:=aGF (h++[FU bi t av]);have w1:=w0.fr (Ad _) f1;obtain⟨h2,m,r2,l,j⟩:=(d h1 w1).MR (si:=h.length);have f:=KA w t av;rw[Ak (aJ hk AA)] at f;have c:=g1 t.name;rw[e] at c;refine⟨h2,m,?_,l,KT (Ad _) f1 j⟩;rw[Ag,Lx,t51];simp only[FU,CE,hk,Ao,AK,AW] at i f c;simp only[abS,Nat.reduceLeDiff,↓reduceIte,Cl,CE,PS,f.Ae,hk,(AA:¬(3:Int)=5),(AA:¬(3:Int)=4),(AA:¬(3:Int)=6),(AA:¬(3:Int)=2),i.Ae,c,Fq,CN,Bg,g,r2.Ae]
def aPS(w:PB h bi b F)(g:Gz b n o a)(hk:t.k=3)(e:lk Qc t.name=none):Gc h F 51 [.ptr (some (bi,0)),.agg (CE t av)] ff bi (b.CV t.name):=by have w0:=SW.new w t av;obtain⟨h1,f,f1,g1⟩:=aGF (h++[FU bi t av]);have w1:=w0.fr (Ad _) f1;obtain⟨h2,l,r2,j,i⟩:=ă w1.pb g t.name;have d:=KA w t av;rw[Ak (aJ hk AA)] at d;have c:=g1 t.name;rw[e] at c;refine⟨h2,l,?_,j,KT (Ad _) f1 i.pI⟩;rw[Ag,Lx,t51];simp only[FU,CE,hk,Ao,AK,AW] at f d c;simp only[abS,Nat.reduceLeDiff,↓reduceIte,Cl,CE,Zn,d.Ae,hk,(AA:¬(3:Int)=5),(AA:¬(3:Int)=4),(AA:¬(3:Int)=6),(AA:¬(3:Int)=2),f.Ae,c,wE,r2.Ae]
def aBf:lk EE aWu=some (qf 143):=by simp only[EE,lk];rfl
def RD(w:PB h bi b F)(g:Gz b (n+1000) o a)(ht:t.Sm)(hv:Bw t.As av)(hs:t.st [aWu]):Gc h F 51 [.ptr (some (bi,0)),.agg (CE t av)] ff bi (b.IM t):=by
 have hn:t.name=aWu:=Bq.1 hs.2;have e:b.IM t=b.Ja t:=by unfold BS.IM BS.Ja;rw[Af hn]
 rw[e];exact OQ w hs.1 (by rw[hn];exact aBf) AA λh1 w1=>(aKw w1 g ht hv).MR
def vG(w:PB h bi b F)(g:Gz b (n+8*(4*(o+a+8)+10)+8*a+2000) o a)(ht:t.Sm)(hv:Bw t.As av)(hk:t.k=2):Gc h F 51 [.ptr (some (bi,0)),.agg (CE t av)] (.bool (b.opens t).2) bi (b.opens t).1:=by
 have ge:∀{m},m<=n+8*(4*(o+a+8)+10)+8*a+2000->Gz b m o a:=λh=>g.dn h;unfold BS.opens;by_cases c:t.name∈F6;.rw[Af c];exact aKD w hk (by simp only[EE,lk,Bq,↓reduceIte,c]) AA λh1 w1=>aKz w1 (n:=n) (ge Ab) ht hv λhx=>absurd (Bq.1 hx.2▸c:aWu∈F6) Ed
 rw[Ac c];by_cases d:t.name∈jR;.rw[Af d];exact OQ w hk (by simp only[EE,lk,↓reduceIte,c,d]) AA λh1 w1=>(Đ w1 (n:=n) (ge Ab) ht hv).MR
 rw[Ac d];by_cases e:t.name∈Dc;.rw[Af e];exact OQ w hk (by simp only[EE,lk,↓reduceIte,c,d,e]) AA λh1 w1=>(aPp w1 (n:=n) (ge Ab) ht hv).MR
 rw[Ac e];by_cases f:t.name∈aA4;.rw[Af f];exact OQ w hk (by simp only[EE,lk,↓reduceIte,c,d,e,f]) AA λh1 w1=>(aPq w1 (n:=n) (ge Ab) ht hv).MR
 rw[Ac f];by_cases i:t.name∈rj;.rw[Af i];exact OQ w hk (by simp only[EE,lk,↓reduceIte,c,d,e,f,i]) AA λh1 w1=>(aGv w1 (n:=n) (ge Ab) ht hv).MR
 rw[Ac i];by_cases j:t.name∈Wt;.rw[Af j];exact OQ w hk (by simp only[EE,lk,↓reduceIte,c,d,e,f,i,j]) AA λh1 w1=>(aPt w1 (n:=n) (ge Ab) ht hv).MR
 rw[Ac j];by_cases l:t.name∈jS;.rw[Af l];exact OQ w hk (by simp only[EE,lk,↓reduceIte,c,d,e,f,i,j,l]) AA λh1 w1=>aKv w1 (n:=n) (ge Ab) ht hv
 rw[Ac l];by_cases p:t.name∈iw;.rw[Af p];exact aKD w hk (by simp only[EE,lk,↓reduceIte,c,d,e,f,i,j,l,p]) AA λh1 w1=>⟨h1,F,aPK _,w1.pb,.refl⟩
 rw[Ac p];by_cases q:t.name∈o9;.rw[Af q];exact OQ w hk (by simp only[EE,lk,↓reduceIte,c,d,e,f,i,j,l,p,q]) AA λh1 w1=>(aPz w1 (n:=n) (ge Ab) ht hv).MR
 rw[Ac q];by_cases r:t.name∈ix;.rw[Af r];exact OQ w hk (by simp only[EE,lk,↓reduceIte,c,d,e,f,i,j,l,p,q,r]) AA λh1 w1=>(aPC w1 (n:=n) (ge Ab) ht hv).MR
 rw[Ac r];by_cases O1:t.name∈aA5;.rw[Af O1];exact OQ w hk (by simp only[EE,lk,↓reduceIte,c,d,e,f,i,j,l,p,q,r,O1]) AA λh1 w1=>(aPD w1 (n:=n) (ge Ab) ht hv).MR
 rw[Ac O1];by_cases Un:t.name∈iy;.rw[Af Un];exact OQ w hk (by simp only[EE,lk,↓reduceIte,c,d,e,f,i,j,l,p,q,r,O1,Un]) AA λh1 w1=>(aPw w1 (n:=n) (ge Ab) ht hv).MR
 rw[Ac Un];by_cases VR:t.name∈aA6;.rw[Af VR];exact OQ w hk (by simp only[EE,lk,↓reduceIte,c,d,e,f,i,j,l,p,q,r,O1,Un,VR]) AA λh1 w1=>(aPB w1 (n:=n) (ge Ab) ht hv).MR
 rw[Ac VR];by_cases dP:t.name∈QW;.rw[Af dP];exact OQ w hk (by simp only[EE,lk,↓reduceIte,c,d,e,f,i,j,l,p,q,r,O1,Un,VR,dP]) AA λh1 w1=>(aKw w1 (n:=n) (ge Ab) ht hv).MR
 rw[Ac dP];by_cases Zm:t.name=aWA;.rw[Af Zm];exact OQ w hk (by simp only[EE,lk,Bq,↓reduceIte,c,d,e,f,i,j,l,p,q,r,O1,Un,VR,dP,BG Zm]) AA λh1 w1=>(aPN w1 (n:=n) (ge Ab) ht hv).MR
 rw[Ac Zm];by_cases pM:t.name=aWU;.rw[Af pM];exact OQ w hk (by simp only[EE,lk,Bq,↓reduceIte,c,d,e,f,i,j,l,p,q,r,O1,Un,VR,dP,Zm,BG pM]) AA λh1 w1=>(aPr w1 (n:=n) (ge Ab) ht hv).MR
 rw[Ac pM];by_cases jn:t.name=aWx;.rw[Af jn];exact OQ w hk (by simp only[EE,lk,Bq,↓reduceIte,c,d,e,f,i,j,l,p,q,r,O1,Un,VR,dP,Zm,pM,BG jn]) AA λh1 w1=>(aPs w1 (n:=n) (ge Ab) ht hv).MR
 rw[Ac jn];by_cases sk:t.name=[97];.rw[Af sk];exact OQ w hk (by simp only[EE,lk,Bq,↓reduceIte,c,d,e,f,i,j,l,p,q,r,O1,Un,VR,dP,Zm,pM,jn,BG sk]) AA λh1 w1=>(aPx w1 (n:=n) (ge Ab) ht hv).MR
 rw[Ac sk];by_cases lM:t.name=aWT;.rw[Af lM];exact OQ w hk (by simp only[EE,lk,Bq,↓reduceIte,c,d,e,f,i,j,l,p,q,r,O1,Un,VR,dP,Zm,pM,jn,sk,BG lM]) AA λh1 w1=>(aPu w1 (n:=n) (ge Ab) ht hv).MR
 rw[Ac lM];by_cases Ĕ:t.name=aWL;.rw[Af Ĕ];exact OQ w hk (by simp only[EE,lk,Bq,↓reduceIte,c,d,e,f,i,j,l,p,q,r,O1,Un,VR,dP,Zm,pM,jn,sk,lM,BG Ĕ]) AA λh1 w1=>(aPv w1 (n:=n) (ge Ab) ht hv).MR
 rw[Ac Ĕ];by_cases vd:t.name=aW6;.rw[Af vd];exact OQ w hk (by simp only[EE,lk,Bq,↓reduceIte,c,d,e,f,i,j,l,p,q,r,O1,Un,VR,dP,Zm,pM,jn,sk,lM,Ĕ,BG vd]) AA λh1 w1=>(aPA w1 (n:=n) (ge Ab) ht hv).MR
 rw[Ac vd];exact aPR w (n:=n) (ge Ab) ht hv hk (by simp only[EE,lk,Bq,↓reduceIte,c,d,e,f,i,j,l,p,q,r,O1,Un,VR,dP,Zm,pM,jn,sk,lM,Ĕ,vd])
def pO(w:PB h bi b F)(g:Gz b (n+8*(4*(o+a+8)+10)+8*a+2000) o a)(ht:t.Sm)(hv:Bw t.As av)(hk:t.k=3):Gc h F 51 [.ptr (some (bi,0)),.agg (CE t av)] (.bool (b.MA t).2) bi (b.MA t).1:=by
 have ge:∀{m},m<=n+8*(4*(o+a+8)+10)+8*a+2000->Gz b m o a:=λh=>g.dn h;unfold BS.MA;by_cases u:t.name=AT;.rw[Af u];exact aGG w hk (by rw[u];simp only[Qc,lk];rfl) AA λh1 w1=>aKz w1 (n:=n) (ge Ab) ht hv λhx=>by have:=hx.1;omega
 rw[Ac u];by_cases s:t.name∈QW
 .rw[Af s];have q:t.name=aWu\/t.name=aWz:=by simpa[QW] using s
  rcases q with q|q
  .exact aGG w hk (by rw[q];simp only[Qc,lk];rfl) AA λh1 w1=>aKy w1 (n:=n) (ge Ab)
  .exact aGG w hk (by rw[q];simp only[Qc,lk];rfl) AA λh1 w1=>aKy w1 (n:=n) (ge Ab)
 rw[Ac s];have d:¬t.name=aWu/\¬t.name=aWz:=by simpa[QW] using s
 have c:¬t.name=aWw:=u;by_cases e:t.name∈QX;.rw[Af e];exact vF w hk (by simp only[Qc,lk,Bq,↓reduceIte,c,d.1,d.2,e]) AA λh1 w1=>(aKx w1 (n:=n) (ge Ab)).MR
 rw[Ac e];by_cases f:t.name∈ü;.rw[Af f];exact vF w hk (by simp only[Qc,lk,Bq,↓reduceIte,c,d.1,d.2,e,f]) AA λh1 w1=>(aPJ w1 (n:=n) (ge Ab)).MR
 rw[Ac f];by_cases i:t.name∈Dc;.rw[Af i];exact vF w hk (by simp only[Qc,lk,Bq,↓reduceIte,c,d.1,d.2,e,f,i]) AA λh1 w1=>(aPH w1 (n:=n) (ge Ab)).MR
 rw[Ac i];by_cases j:t.name∈Wt;.rw[Af j];exact vF w hk (by simp only[Qc,lk,Bq,↓reduceIte,c,d.1,d.2,e,f,i,j]) AA λh1 w1=>(aPG w1 (n:=n) (ge Ab)).MR
 rw[Ac j];by_cases l:t.name∈Y9;.rw[Af l];exact vF w hk (by simp only[Qc,lk,Bq,↓reduceIte,c,d.1,d.2,e,f,i,j,l]) AA λh1 w1=>(aPL w1 (n:=n) (ge Ab)).MR
 rw[Ac l];by_cases p:t.name=aWU;.rw[Af p];exact vF w hk (by simp only[Qc,lk,Bq,↓reduceIte,c,d.1,d.2,e,f,i,j,l,BG p]) AA λh1 w1=>(aPI w1 (n:=n) (ge Ab)).MR
 rw[Ac p];by_cases r:t.name=[98,114];.rw[Af r];exact vF w hk (by simp only[Qc,lk,Bq,↓reduceIte,c,d.1,d.2,e,f,i,j,l,p,BG r]) AA λh1 w1=>(aPM w1 (n:=n) (ge Ab))
 rw[Ac r];exact aPS w (n:=n) (ge Ab) hk (by simp only[Qc,lk,Bq,↓reduceIte,c,d.1,d.2,e,f,i,j,l,p,r])
def aGH(w:PB h bi b F)(g:Gz b n o a):Gc h F 91 [.ptr (some (bi,0))] (.tuple []) bi b.aGl:=by
 have r:=g.rm.tm;obtain⟨l,j,c,tt,G,w,hc,rfl⟩:=w;have lt:=BB.GN w.t;have l6:=w.l6;by_cases h0:b.tm=[]
 .have e:b.aGl=b:=by
   unfold BS.aGl;have:b.tm.dropLast=b.tm:=by rw[h0];rfl
   rw[this]
  refine⟨h,_,?_,⟨l,j,c,tt,G,by rw[e];exact w,by rw[e];exact hc,rfl⟩,.refl⟩;have i:AH (.len false) [tt]=some (I 0):=by rw[lt,h0];rfl
  rw[Ag,uF,t91];simp only[abS,l6,i,Wi]
 .have hpos:=CB.2 h0;obtain⟨u,s,f⟩:=BB.TB w.t (k:= .i64) (n:=b.tm.length-1) Ab;rw[<-Ww] at f;obtain⟨p,q,d⟩:=aF8 f Et h;have m:=w.aF9 d;refine⟨_,_,?_,⟨l,j,c,p,G,m,hc,rfl⟩,Cz⟩;rw[Ag,uF,t91];simp only[abS,l6,lt,(Ab:(0:Int)<(b.tm.length:Int)),N8 hpos (Ab:b.tm.length<9223372036854775807),s,q.Ae,w.st (k:=6) (v0:=tt) rfl (BB.cells d),Wi]
def dS(w:PB h bi b F)(g:Gz b (n+4*a+5) o a)(ht:t.Sm)(hk:t.k=5):Gc h F 51 [.ptr (some (bi,0)),.agg (CE t av)] ff bi (b.Ks t):=by have w0:=SW.new w t av;obtain⟨h2,f,r2,e,d⟩:=(aPF w0 g ht).MR (si:=h.length);have c:=KA w t av;rw[Ak (aJ hk AA)] at c;refine⟨h2,f,?_,e,KT (Ad _) .refl d⟩;rw[Ag,Lx,t51];simp only[FU,CE,hk] at r2 c;simp only[abS,Nat.reduceLeDiff,↓reduceIte,Cl,CE,c.Ae,hk,r2.Ae]
def T9(w:PB h bi b F)(g:Gz b (n+1) o a)(ht:t.Sm)(hk:t.k=4):Gc h F 51 [.ptr (some (bi,0)),.agg (CE t av)] ff bi (b.DB t.data 0):=by have w0:=SW.new w t av;obtain⟨h2,f,r2,e,d⟩:=MU w0.pb g (Bv ht.data AA) 0;have c:=KA w t av;rw[Ak (aJ hk AA)] at c;refine⟨h2,f,?_,e,KT (id:=h.length+1) AB .refl d.pI⟩;rw[Ag,Lx,t51];simp only[FU,CE,hk] at r2 c;simp only[abS,Nat.reduceLeDiff,↓reduceIte,Cl,CE,c.Ae,hk,r2.Ae,(AA:¬(4:Int)=5)]
def pP(w:PB h bi b F)(hk:t.k=1):Gc h F 51 [.ptr (some (bi,0)),.agg (CE t av)] ff bi b:=by have w0:=SW.new w t av;have c:=KA w t av;rw[Ak (aJ hk AA)] at c;refine⟨_,F,?_,w0.pb,KT (id:=h.length+1) (x:=FU bi t av) AB .refl (Fo.refl.pI)⟩;rw[Ag,Lx,t51];simp only[FU,CE,hk] at c⊢;simp only[abS,Nat.reduceLeDiff,↓reduceIte,Cl,CE,c.Ae,hk,(AA:¬(1:Int)=5),(AA:¬(1:Int)=4),(AA:¬(1:Int)=6),(AA:¬(1:Int)=2),(AA:¬(1:Int)=3)]
def ė(w:PB h bi b F)(hk:¬t.ok):Gc h F 51 [.ptr (some (bi,0)),.agg (CE t av)] ff bi b:=by have c:=KA w t av;rw[Ap hk] at c;refine⟨_,F,?_,w,.refl⟩;rw[Ag,Lx,t51];simp only[CE] at c;simp only[abS,Nat.reduceLeDiff,↓reduceIte,Cl,CE,c.Ae]
end
section
variable{h h':Ai}{bi:Nat}{b b':BS}{F:Nat->Prop}{n o a:Nat}{t:DF}{av:Aa}
def aBg(hs:t.st F6):¬t.st [aWu]:=λhx=>absurd (Bq.1 hx.2▸hs.2:aWu∈F6) Ed
def aKE(w:PB h bi b F)(g:Gz b (n+4*a+1005) o a)(ht:t.Sm)(hv:Bw t.As av)(hf:∀m,t.k=2->Gc h F 87 [.ptr (some (bi,0)),.int .i64 m] tt bi (b.E3 m).1):Gc h F 53 [.ptr (some (bi,0)),.agg (CE t av)] (.bool (b.DX t).2) bi (b.DX t).1:=by
 have Ci:=w.Ci;unfold BS.DX BS.Mz;by_cases E:¬t.ok;.rw[Af E];have f:=KA w t av;rw[Ap E] at f;refine⟨_,_,?_,w,.refl⟩;rw[Ag,Kd,t53];simp only[abS,↓reduceIte,f.Ae]
 rw[Ac E];have f:=KA w t av;rw[Ak (ET.1 E)] at f;by_cases i:t.k=5;.rw[Af i];obtain⟨h1,s,d,w1,c⟩:=dS (n:=n) (av:=av) w (g.dn Ab) ht i;refine⟨_,_,?_,w1,c⟩;rw[Ag,Kd,t53];simp only[abS,↓reduceIte,f.Ae,BG i,d.Ae]
 rw[Ac i];by_cases j:t.k=4;.rw[Af j];obtain⟨h1,s,d,w1,c⟩:=T9 (n:=n) (av:=av) w (g.dn Ab) ht j;refine⟨_,_,?_,w1,c⟩;rw[Ag,Kd,t53];simp only[abS,↓reduceIte,f.Ae,i,BG j,d.Ae]
 rw[Ac j];by_cases l:t.k=1;.rw[Af l];obtain⟨h1,s,d,w1,c⟩:=pP (av:=av) w l;refine⟨_,_,?_,w1,c⟩;rw[Ag,Kd,t53];simp only[abS,↓reduceIte,f.Ae,i,j,BG l,d.Ae]
 rw[Ac l];by_cases D:t.st F6;.rw[Af D];have p:=Gq RC t av h;rw[Ak D] at p;obtain⟨h1,s,d,w1,c⟩:=j2 (n:=n) w (g.dn Ab) ht hv (λe=>absurd e (aBg D));refine⟨_,_,?_,w1,c⟩;rw[Ag,Kd,t53];simp only[abS,↓reduceIte,f.Ae,p.Ae,i,j,l,d.Ae]
 rw[Ac D];have p:=Gq RC t av h;rw[Ap D] at p;by_cases C:t.en [AT];.rw[Af C];have q:=aH Hl t av h;rw[Ak C] at q;obtain⟨h1,s,d,w1,c⟩:=j2 (n:=n) w (g.dn Ab) ht hv (λe=>by have h1:=e.1;have h2:=C.1;omega);refine⟨_,_,?_,w1,c⟩;rw[Ag,Kd,t53];simp only[abS,↓reduceIte,f.Ae,p.Ae,q.Ae,i,j,l,d.Ae]
 rw[Ac C];have q:=aH Hl t av h;rw[Ap C] at q;by_cases B:t.st sT1;.rw[Af B];have r:=Gq č t av h;rw[Ak B] at r;obtain⟨h1,s,d,w1,c⟩:=hf 9 B.1;refine⟨_,_,?_,w1,c⟩;rw[Ag,Kd,t53];simp only[abS,↓reduceIte,f.Ae,p.Ae,q.Ae,r.Ae,i,j,l,d.Ae,BS.E3,BS.again]
 rw[Ac B];have r:=Gq č t av h;rw[Ap B] at r;by_cases A:t.st [aXV];.rw[Af A];have u:=Gq jk t av h;rw[Ak A] at u;obtain⟨h1,s,d,w1,c⟩:=hf 12 A.1;refine⟨_,_,?_,w1,c⟩;rw[Ag,Kd,t53];simp only[abS,↓reduceIte,f.Ae,p.Ae,q.Ae,r.Ae,u.Ae,i,j,l,d.Ae,BS.E3,BS.again]
 rw[Ac A];have u:=Gq jk t av h;rw[Ap A] at u;by_cases z:t.st [[116,114]];.rw[Af z];have v:=Gq ď t av h;rw[Ak z] at v;obtain⟨h1,s,d,w1,c⟩:=hf 13 z.1;refine⟨_,_,?_,w1,c⟩;rw[Ag,Kd,t53];simp only[abS,↓reduceIte,f.Ae,p.Ae,q.Ae,r.Ae,u.Ae,v.Ae,i,j,l,d.Ae,BS.E3,BS.again]
 rw[Ac z];have v:=Gq ď t av h;rw[Ap z] at v;by_cases y:t.st sTd;.rw[Af y];have x:=Gq Ď t av h;rw[Ak y] at x;obtain⟨h1,s,d,w1,c⟩:=hf 14 y.1;refine⟨_,_,?_,w1,c⟩;rw[Ag,Kd,t53];simp only[abS,↓reduceIte,f.Ae,p.Ae,q.Ae,r.Ae,u.Ae,v.Ae,x.Ae,i,j,l,d.Ae,BS.E3,BS.again]
 rw[Ac y];have x:=Gq Ď t av h;rw[Ap y] at x;by_cases O1:t.k=2;.rw[Af O1];obtain⟨h1,s,d,w1,c⟩:=hf 7 O1;refine⟨_,_,?_,w1,c⟩;rw[Ag,Kd,t53];simp only[abS,↓reduceIte,f.Ae,p.Ae,q.Ae,r.Ae,u.Ae,v.Ae,x.Ae,i,j,l,BG O1,d.Ae,BS.E3,BS.again]
 rw[Ac O1];by_cases Un:t.k=3;.rw[Af Un];refine⟨_,_,?_,w,.refl⟩;rw[Ag,Kd,t53];simp only[abS,↓reduceIte,f.Ae,p.Ae,q.Ae,r.Ae,u.Ae,v.Ae,x.Ae,i,j,l,O1,BG Un]
 rw[Ac Un];by_cases VR:b.Of;.rw[Af VR];have sg:=SL w g;rw[Ak VR] at sg;obtain⟨_,h1,s,d,w1,c⟩:=jX w g (Dg (ws:=[AT])) AA;have g1:Gz {b with Au:=D5 Dh (AG [AT]) b.Au} (n+4*a+1005) o a:=g.Ky Dd;obtain⟨_,h2,R,r2,L,I⟩:=je w1 g1;have g2:Gz {b with Au:=D5 Dh (AG [AT]) b.Au,A4:=Fw b.A4} (n+4*a+1005) o a:=g.sub (lt:=b.tm) Dd (Cf _ _) (Ad _);have g3:Gz {b with Au:=D5 Dh (AG [AT]) b.Au,A4:=Fw b.A4,tm:=b.tm.dropLast} (n+4*a+1005) o a:=g.sub Dd (Cf _ _) AB;obtain⟨h3,Q,N,K,H⟩:=aGH L g2;obtain⟨O,P,M,J,G⟩:=aBb K g3;refine⟨_,_,?_,J,((c.trans I).trans H).trans G⟩;rw[Ag,Kd,t53];simp only[abS,↓reduceIte,f.Ae,p.Ae,q.Ae,r.Ae,u.Ae,v.Ae,x.Ae,sg.Ae,i,j,l,O1,Un,ñ,d.Ae,r2.Ae,N.Ae,M.Ae]
 rw[Ac VR];have sg:=SL w g;rw[Ap VR] at sg;obtain⟨h1,s,d,w1,c⟩:=Ą w;refine⟨_,_,?_,w1,c⟩;rw[Ag,Kd,t53];simp only[abS,↓reduceIte,f.Ae,p.Ae,q.Ae,r.Ae,u.Ae,v.Ae,x.Ae,sg.Ae,i,j,l,O1,Un,d.Ae]
def aPT(w:PB h bi b F)(g:Gz b (n+8*(4*(o+a+8)+10)+8*a+2000) o a)(ht:t.Sm)(hv:Bw t.As av):Gc h F 51 [.ptr (some (bi,0)),.agg (CE t av)] (.bool (b.LB t).2) bi (b.LB t).1:=by
 have ge:∀{m},m<=n+8*(4*(o+a+8)+10)+8*a+2000->Gz b m o a:=λh=>g.dn h;unfold BS.LB;by_cases j:¬t.ok;.rw[Af j];exact ė w j
 rw[Ac j];by_cases r:t.k=5;.rw[Af r];exact dS (n:=n) w (ge Ab) ht r
 rw[Ac r];by_cases q:t.k=4;.rw[Af q];exact T9 (n:=n) w (ge Ab) ht q
 rw[Ac q];by_cases d:t.k=6
 .rw[Af d];obtain⟨x,l6,s⟩:=w.ltm;have lt:=BB.GN s;have w0:=SW.new w t av;have ok:=KA w t av;rw[Ak (aJ d AA)] at ok;obtain⟨v,c,aPU⟩:=w0.pb.ltm;have i:=BB.GN aPU;by_cases e:0<b.tm.length;.rw[Af e];obtain⟨h1,u,f,w1,l⟩:=aKE (n:=n) (av:=av) w0.pb (ge Ab) ht hv (λm hm=>Ab);refine⟨h1,u,?_,w1,KT (id:=h.length+1) AB .refl l.pI⟩;rw[Ag,Lx,t51];simp only[FU,CE,d] at f ok c;simp only[abS,Nat.reduceLeDiff,↓reduceIte,Cl,CE,ok.Ae,d,(AA:¬(6:Int)=5),(AA:¬(6:Int)=4),c,i,(Ab:(0:Int)<(b.tm.length:Int)),f.Ae]
  .rw[Ac e];obtain⟨h1,u,f,w1,l⟩:=Ą w0.pb;refine⟨h1,u,?_,w1,KT (id:=h.length+1) AB .refl l.pI⟩;rw[Ag,Lx,t51];simp only[FU,CE,d] at f ok c;simp only[abS,Nat.reduceLeDiff,↓reduceIte,Cl,CE,ok.Ae,d,(AA:¬(6:Int)=5),(AA:¬(6:Int)=4),c,i,(Ab:¬(0:Int)<(b.tm.length:Int)),f.Ae]
 rw[Ac d];by_cases e:t.k=2;.rw[Af e];exact vG (n:=n) w g ht hv e
 rw[Ac e];by_cases p:t.k=3;.rw[Af p];exact pO (n:=n) w g ht hv p
 .rw[Ac p];exact pP w (by have:=ET.1 j;unfold DF.ok at this;omega)
end
section
variable{h h':Ai}{ar n x:Int}{ps:List PN}{A:Ar}
def aKF{a n:Nat}{m:Option Nat}(w:PA h a n m ps A)(d:NB A)(hd:A.has x/\(A.nd x).kind=1)(q:Bool):
  ∃h' PI,Cy cx 63 [.ptr (some (a,0)),.int .i64 x,.bool q] h (.int .i64 0) h'/\PA h' a n m PI (A.set x {A.nd x with DW:=q})/\Fo h (λi=>i∈Gb a n m ps) h' (λi=>i∈Gb a n m PI):=by
 have hp:=(w.pn hd.1).2.1;obtain⟨h2,e,c,g,f,l2⟩:=w.wr hd.1 (k:=10) AA (v:= .bool q) rfl (p:=⟨{A.nd x with DW:=q},(pN ps x).kv,(pN ps x).av,by rw[<-hp];exact(pN ps x).ok⟩) (by simp only[PN.row];rw[hp];rfl) rfl rfl;refine⟨h2,_,?_,c,w.gu c g f l2⟩;rw[Ag,P_,t63];simp only[abS,(oL (x:=x) w d).Ae,Af hd.1,Af hd.2,CY,C4,(I8 w d hd.1).Ae,e]
def j7(nm KB sys:Ah)(d:Int):PN:=⟨{kind:=3,BM:=d,name:=nm,KB:=KB,sys:=sys},.slnil,.slnil,rfl⟩
def aKG{a n:Nat}{m:Option Nat}{nm KB sys:Ah}(w:PA h a n m ps A)(e:NB A)(hb:A.len+1<=1000000000)(hd:A.has x/\(A.nd x).kind=1):
  ∃h',Cy cx 65 [.ptr (some (a,0)),.int .i64 x,.str nm,.str KB,.str sys] h (.tuple [.int .i64 (A.len+1),.int .i64 0]) h'/\PA h' a h.length m (ps++[j7 nm KB sys x]) (A.add (j7 nm KB sys x).x)/\(∀i,i<h.length->i≠a->i≠n->h'[i]?=h[i]?)/\h'.length=h.length+1:=by
 have eQ:=w.len;obtain⟨h1,c,w1,d,l1⟩:=á w Ab (j7 nm KB sys x) rfl rfl;have r2:Cy cx 108 [.ptr (some (a,0)),.int .i64 x,.agg (j7 nm KB sys 0).row] h (.tuple [.int .i64 (A.len+1),.int .i64 0]) h1:=by rw[PN.row] at c;rw[Ag,gV,aAg,PN.row];simp only[abS,(oL (x:=x) w e).Ae,Af hd.1,Af hd.2,CY,C4,j7] at c⊢;simp only[Cx,c.Ae]
 refine⟨h1,?_,w1,d,l1⟩;simp only[PN.row,j7] at r2;rw[Ag,Q_,t65];simp only[abS,Nat.reduceLeDiff,↓reduceIte,Cl,r2.Ae]
end
section
variable{h h':Ai}{bi:Nat}{b b':BS}{F:Nat->Prop}{n o a:Nat}{t:DF}{av:Aa}
def Ę(w:PB h bi b F)(g:Gz b n o a):∃ar,Bn h none (.ptr (some (bi,0)))=some (.ptr (some (ar,0)))/\Gc h F 63 [.ptr (some (ar,0)),.int .i64 b.BM,tt] (.int .i64 0) bi b.PL:=by
 obtain⟨ar,i,c,d,G,w,hc,rfl⟩:=w;obtain⟨h',j,r,w',x'⟩:=w.step (A':=b.PL.a) (R:=λh'=>Cy cx 63 [.ptr (some (ar,0)),.int .i64 b.BM,tt] h (.int .i64 0) h') λn m ps f=>by obtain⟨h1,aD,r,w1,e⟩:=aKF f g.rm.Wk g.ok.BM true;exact⟨h1,n,m,aD,r,w1,e⟩
 exact⟨ar,w.l0,h',_,r,⟨ar,i,c,d,j,w',hc,rfl⟩,x'⟩
def aPV(w:PB h bi b F)(g:Gz b (n+1) o a)(nm KB sys:Ah):∃ar,Bn h none (.ptr (some (bi,0)))=some (.ptr (some (ar,0)))/\Gc h F 65 [.ptr (some (ar,0)),.int .i64 b.BM,.str nm,.str KB,.str sys] (.tuple [.int .i64 (b.a.len+1),.int .i64 0]) bi {b with a:=b.a.add (j7 nm KB sys b.BM).x}:=by
 obtain⟨ar,f,c,d,G,w,hc,rfl⟩:=w;obtain⟨h',j,r,w',x'⟩:=w.step (A':=b.a.add (j7 nm KB sys b.BM).x) (R:=λh'=>Cy cx 65 [.ptr (some (ar,0)),.int .i64 b.BM,.str nm,.str KB,.str sys] h (.tuple [.int .i64 (b.a.len+1),.int .i64 0]) h') λn m ps e=>by obtain⟨h1,r,w1,i,l1⟩:=aKG (nm:=nm) (KB:=KB) (sys:=sys) e g.rm.Wk (by have:=g.rm.n;unfold Ar.len;omega) g.ok.BM;exact⟨h1,_,_,_,r,w1,e.Ry rfl i l1⟩
 exact⟨ar,w.l0,h',_,r,⟨ar,f,c,d,j,w',hc,rfl⟩,x'⟩
def aGI(w:PB h bi b F)(g:Gz b n o a){e:Int}(ok:EA b.a e)(p x k:Int):∃f d,Bn h none (.ptr (some (bi,0)))=some (.ptr (some (f,0)))/\Gc h F 66 [.ptr (some (f,0)),.int .i64 p,.int .i64 x,.int .i64 k] (.int .i64 d) bi {b with a:=b.a.GC p x k}:=by
 obtain⟨f,q,c,i,G,w,hc,rfl⟩:=w;obtain⟨h',s,⟨d,r⟩,w',x'⟩:=w.step (A':=b.a.GC p x k) (R:=λh'=>∃d,Cy cx 66 [.ptr (some (f,0)),.int .i64 p,.int .i64 x,.int .i64 k] h (.int .i64 d) h') λn m ps l=>by obtain⟨d,h1,aD,r,w1,j⟩:=aCr (p:=p) (x:=x) (b:=k) l g.rm.Wk ok;exact⟨h1,n,m,aD,⟨d,r⟩,w1,j⟩
 exact⟨f,d,w.l0,h',_,r,⟨f,q,c,i,s,w',hc,rfl⟩,x'⟩
def aPW{qk:DF->Bool}(w:PB h bi b F)(g:Gz b (n+5) o a)(ht:t.Sm)(hv:Bw t.As av)(hq:∀h,Cy cx 67 [.agg (CE t av)] h (.bool (qk t)) h):Gc h F 45 [.ptr (some (bi,0)),.agg (CE t av)] (.bool (b.Js qk t).2) bi (b.Js qk t).1:=by
 have Ci:=w.Ci;unfold BS.Js;by_cases A:¬t.ok;.rw[Af A];have c:=KA w t av;rw[Ap A] at c;refine⟨_,_,?_,w,.refl⟩;rw[Ag,Sy,t45];simp only[abS,↓reduceIte,c.Ae]
 rw[Ac A];have c:=KA w t av;rw[Ak (ET.1 A)] at c;by_cases z:t.JE;.rw[Af z];have d:=T6 t av h;rw[Ak z] at d;refine⟨_,_,?_,w,.refl⟩;rw[Ag,Sy,t45];simp only[abS,↓reduceIte,c.Ae,d.Ae]
 rw[Ac z];have d:=T6 t av h;rw[Ap z] at d;by_cases v:t.k=4;.rw[Af v];obtain⟨h1,K,j,w1,i⟩:=MU (s:=t.data) w (g.dn (n':=n+1) Ab) (by have:=ht.data;omega) b.BM;refine⟨_,_,?_,w1,i⟩;rw[Ag,Sy,t45];simp only[abS,↓reduceIte,c.Ae,d.Ae,BG v,Ci,j.Ae]
 rw[Ac v];by_cases f:t.k=1;rotate_left;.rw[Af f];obtain⟨P,u,h1,K,j,w1,i⟩:=Ę w g;obtain⟨h2,J,r2,r,q⟩:=vA w1 2;refine⟨_,_,?_,r,i.trans q⟩;rw[Ag,Sy,t45];simp only[abS,↓reduceIte,c.Ae,d.Ae,v,CY,eq_false f,A5,u,Ci,j.Ae,r2.Ae,BS.again]
 rw[Ac (by simp[f])];have hd:=g.ok.BM;have hx:qK {kind:=3,BM:=b.BM,name:=t.name,KB:=t.KB,sys:=t.sys}:=by constructor<;>simp[Dt,GB,cQ]
 have RA:=Pv g.ok.ok hx (.inr ⟨AB,hd⟩) rfl rfl rfl rfl (λh=>absurd h.1 (AA:¬(3:Int)=4));obtain⟨P,u,h1,K,j,w1,i⟩:=aPV w (g.dn (n':=n+1) Ab) t.name t.KB t.sys;have g1:Gz {b with a:=b.a.add (j7 t.name t.KB t.sys b.BM).x} n o a:=⟨g.ok.IP RA Px,(g.dn (n':=n+1) Ab).rm.GL (L7 (y:={kind:=3,BM:=b.BM,name:=t.name,KB:=t.KB,sys:=t.sys}) AB AB),g.Au,g.A4⟩;obtain⟨O,Q,p,h2,J,r2,r,q⟩:=aGI w1 g1 (e:=0) RA b.BM (b.a.len+1) 0;have l1:=w1.Ci;have l2:=r.Ci;have g2:Gz (b.Nn t) n o a:=(g.dn (n':=n+1) Ab).Nn;have m:PB h2 bi (b.Nn t) J:=r;have l:=hq h2;dsimp only;cases I:qk t with
 |true=>rw[I] at l;rw[Af rfl];obtain⟨H,G,h3,R,N,M,L⟩:=Ę m g2;have E:Cy cx 63 [.ptr (some (H,0)),.int .i64 b.BM,tt] h2 (.int .i64 0) h3:=N;obtain⟨D,C,B⟩:=GH M 2;refine⟨_,_,?_,C,((i.trans q).trans L).trans B⟩;rw[Ag,Sy,t45];simp only[CE,f] at c d l;simp only[abS,↓reduceIte,c.Ae,d.Ae,(AA:¬(1:Int)=4),f,CE,CY,A0,u,Ci,j.Ae,p,l1,r2.Ae,l.Ae,G,l2,E.Ae,D]
 |false=>rw[I] at l;rw[Ac AB];obtain⟨D,C,B⟩:=GH m 2;refine⟨_,_,?_,C,(i.trans q).trans B⟩;rw[Ag,Sy,t45];simp only[CE,f] at c d l;simp only[abS,↓reduceIte,c.Ae,d.Ae,(AA:¬(1:Int)=4),f,CE,CY,A0,u,Ci,j.Ae,p,l1,r2.Ae,l.Ae,D]
def KU{es:List (Aa×Aa)}{k:Int}{v:Aa}(e:IY k es 0=some none):Eu .Uo (h++[.map es]) [.map (some h.length),.int .i64 k,v]=some (h++[.map (es++[(.int .i64 k,v)])],tt):=by simp[Eu,wK,e]
def ZL(k:Nat):Aa:= .func (.func k) [] []
def KV:List (Aa×Aa):=[(I 1,ZL 45),(I 2,ZL 46),(I 3,ZL 47),(I 4,ZL 48),(I 5,ZL 49),(I 6,ZL 50),(I 7,ZL 51),(I 8,ZL 52),(I 18,ZL 53)]
def aKH(h:Ai):Cy cx 40 [] h (.map (some h.length)) (h++[.map KV]):=by have m:=KU (h:=h) (es:=KV.take 0) (k:=1) (v:=ZL 45) rfl;have l:=KU (h:=h) (es:=KV.take 1) (k:=2) (v:=ZL 46) rfl;have j:=KU (h:=h) (es:=KV.take 2) (k:=3) (v:=ZL 47) rfl;have i:=KU (h:=h) (es:=KV.take 3) (k:=4) (v:=ZL 48) rfl;have g:=KU (h:=h) (es:=KV.take 4) (k:=5) (v:=ZL 49) rfl;have f:=KU (h:=h) (es:=KV.take 5) (k:=6) (v:=ZL 50) rfl;have e:=KU (h:=h) (es:=KV.take 6) (k:=7) (v:=ZL 51) rfl;have d:=KU (h:=h) (es:=KV.take 7) (k:=8) (v:=ZL 52) rfl;have c:=KU (h:=h) (es:=KV.take 8) (k:=18) (v:=ZL 53) rfl;simp only[KV,ZL,Q6,LD,BA,B8] at m l j i g f e d c;rw[Ag,N_,t40];simp only[Cx,m,l,j,i,g,f,e,d,c,KV,ZL]
def pQ{es:List (Aa×Aa)}{k:Int}{r:Option (Nat×Aa)}(e:IY k es 0=some r):Eu (.lf .nilFunc true) (h++[.map es]) [.map (some h.length),.int .i64 k]=some (h++[.map es],Ur .nilFunc true r):=by simp[Eu,lR,e]
def PT(w:PB h bi b F)(hk:t.ok){i k:Nat}{r:Bool}(e:IY b.mode KV 0=some (some (i,ZL k)))(f:k<=99999)(d:Gc (h++[.map KV]) F k [.ptr (some (bi,0)),.agg (CE t av)] (.bool r) bi b'):Gc h F 33 [.ptr (some (bi,0)),.agg (CE t av)] (.bool r) bi b':=by obtain⟨h2,p,r2,l,j⟩:=d;have Ci:=w.Ci;have c:=(w.Mo (u:=[.map KV])).Ci;have g:=KA w t av;rw[Ak hk] at g;have m:=pQ (h:=h) e;refine⟨h2,p,?_,l,Fo.trans ⟨AB,λi hi _=>Al hi,λ_ hf=> .inl hf⟩ j⟩;rw[Ag,gP,t33];simp only[abS,↓reduceIte,g.Ae,Ci,(aKH h).Ae,c,DI,m,Ur,ZL,CN,Bg,f,r2.Ae]
def aGJ(w:PB h bi b F)(hk:t.ok)(e:IY b.mode KV 0=some none):Gc h F 33 [.ptr (some (bi,0)),.agg (CE t av)] ff bi b:=by have Ci:=w.Ci;have w1:=w.Mo (u:=[.map KV]);have c:=w1.Ci;have d:=KA w t av;rw[Ak hk] at d;have f:=pQ (h:=h) e;refine⟨_,F,?_,w1,⟨AB,λi hi _=>Al hi,λ_ hf=> .inl hf⟩⟩;rw[Ag,gP,t33];simp only[abS,↓reduceIte,d.Ae,Ci,(aKH h).Ae,c,DI,f,Ur]
def aPX{qk:DF->Bool}(w:PB h bi b F)(g:Gz b (n+8*(4*(o+a+8)+10)+8*a+2000) o a)(ht:t.Sm)(hv:Bw t.As av)(hq:∀h,Cy cx 67 [.agg (CE t av)] h (.bool (qk t)) h)(ho:b.mode=6->Np b)(hf:b.mode=18->∀h',PB h' bi b F->∀m,t.k=2->Gc h' F 87 [.ptr (some (bi,0)),.int .i64 m] tt bi (b.E3 m).1):Gc h F 33 [.ptr (some (bi,0)),.agg (CE t av)] (.bool (b.apply qk t).2) bi (b.apply qk t).1:=by
 have ge:∀{m},m<=n+8*(4*(o+a+8)+10)+8*a+2000->Gz b m o a:=λh=>g.dn h;have w1:=w.Mo (u:=[.map KV]);unfold BS.apply;by_cases r:¬t.ok;.rw[Af r];have s:=KA w t av;rw[Ap r] at s;refine⟨_,_,?_,w,.refl⟩;rw[Ag,gP,t33];simp only[abS,↓reduceIte,s.Ae]
 rw[Ac r];have hk:=ET.1 r;by_cases q:b.mode=1;.rw[Af q];exact PT w hk (i:=0) (k:=45) (by rw[q];rfl) AA (aPW (n:=n) w1 (ge Ab) ht hv hq)
 rw[Ac q];by_cases p:b.mode=2;.rw[Af p];exact PT w hk (i:=1) (k:=46) (by rw[p];rfl) AA (aPi (n:=n) w1 (ge Ab) ht hv)
 rw[Ac p];by_cases l:b.mode=3;.rw[Af l];exact PT w hk (i:=2) (k:=47) (by rw[l];rfl) AA (aPj (n:=n) w1 (ge Ab) ht hv (λhs=>RD (n:=n) w1 (ge Ab) ht hv hs))
 rw[Ac l];by_cases j:b.mode=4;.rw[Af j];exact PT w hk (i:=3) (k:=48) (by rw[j];rfl) AA (j2 (n:=n) w1 (ge Ab) ht hv (λhs=>RD (n:=n) w1 (ge Ab) ht hv hs))
 rw[Ac j];by_cases f:b.mode=5;.rw[Af f];exact PT w hk (i:=4) (k:=49) (by rw[f];rfl) AA (aPk (n:=n) w1 (ge Ab) ht hv (λhs=>RD (n:=n) w1 (ge Ab) ht hv hs))
 rw[Ac f];by_cases c:b.mode=6;.rw[Af c];exact PT w hk (i:=5) (k:=50) (by rw[c];rfl) AA (aPm (n:=n) w1 (ge Ab) ht hv (ho c) (λhs=>RD (n:=n) w1 (ge Ab) ht hv hs))
 rw[Ac c];by_cases e:b.mode=7;.rw[Af e];exact PT w hk (i:=6) (k:=51) (by rw[e];rfl) AA (aPT (n:=n) w1 g ht hv)
 rw[Ac e];by_cases d:b.mode=8;.rw[Af d];exact PT w hk (i:=7) (k:=52) (by rw[d];rfl) AA (aPn (n:=n) w1 (ge Ab) ht hv)
 rw[Ac d];by_cases lM:b.mode=18;.rw[Af lM];exact PT w hk (i:=8) (k:=53) (by rw[lM];rfl) AA (aKE (n:=n) w1 (ge Ab) ht hv (hf lM _ w1))
 rw[Ac lM];exact aGJ w hk (by simp only[KV,IY,q,p,l,j,f,c,e,d,lM,DP])
end
section
variable{av:Aa}
def qE1:Ah:=aW2
def qE2:Ah:=aW4
def qE3:Ah:=[72,84,77,76]
def qA:Ah:=aW9
def qB:Ah:=aWX
def HU:List Ah:=[qE1,qE2,qE3]
def vH:List Ah:=[aXd,aW5,aXk,aWY,aWZ,aXl,aWR,aXh,aWQ,aWK,aWE,aWG,aXe,aW1]
def dT:List Ah:=[qA,qB]
def sn{k:IntKind}{s:Ah}{b z:Nat}(hb:b<=s.length):AH (.Rb z true false true) [.str s,.int k (b:Int)]=some (.str (s.take b)):=by
 have a:EP (b:Int) s.length=some b:=by unfold EP;rw[Af Ab];rfl
 simp[AH,Jl,DY,a]
def Jv(p w:Ah):Bool:=decide (w.length<=p.length/\Fc (p.take w.length)=Fc w)
def Xb(p w:Ah):Bool:=decide (Fc p=Fc w)
def aPY{v:Aa}{l:List Ah}(hv:IB l v)(hn:l.length<9223372036854775807)(h:Ai){f:FuncId}{caps:List Aa}{p:Ah->Bool}(hk:f<=99999)(hp:∀a∈l,Cy cx f (.str a::caps) h (.bool (p a)) h):
  Cy cx 189 [v,.func (.func f) [] caps] h (.int .i64 (Cr p 0 l)) h:=by
 rw[Ag,ax,aEN];have hlen:(l.map Cv).length=l.length:=Aw ..;simp only[Cx,BB.len hv];refine Co (λn:Nat=>[.int .i64 0,.int .i64 (n:Int)]) (λn h1=>n<=l.length/\Cr p 0 l=Cr p n (l.drop n)/\h1=h) (λn=>l.length-n) 0 rfl ⟨Bp _,rfl,rfl⟩ ?_;rintro n h1 ⟨b,ha,rfl⟩;rcases Bl n l.length with hlt|IS
 .have i1:(n:Int)<((l.map Cv).length:Int):=by rw[hlen];omega
  have c:(l.map Cv)[n]'(by rw[hlen];exact hlt)=Cv l[n]:=AB;rw[Az hlt,Cr] at ha;simp only[Cx,fX,↓reduceIte,CN,hk,i1,BB.GY hv (show n<(l.map Cv).length by rw[hlen];exact hlt),c,Cv,(hp _ (AF hlt)).Ae];rw[DC];refine⟨λhe=>?_,λhe=>?_⟩;.rw[ha,Af he]
  .rw[Ac (by simp[he])] at ha;simp only[Cx,Dw (Ab:n<9223372036854775807)];exact BC.next (n+1) rfl ⟨hlt,ha,rfl⟩ Ab
 .have i1:¬(n:Int)<((l.map Cv).length:Int):=by rw[hlen];omega
  rw[AR IS,Cr] at ha;simp only[Cx,i1,A5,AU,AN,ha]
def aBh{U:Type}{p:U->Bool}{l:List U}:decide (0<=Cr p 0 l)=l.any p:=by
 have:l.any p=(l.find? p).isSome:=by rw[Mq,aRS,Od]
 rw[this];rcases He (p:=p) (l:=l) (k:=0) with⟨h1,h2⟩|⟨n,a,h1,h2,h3⟩
 .rw[h1,h2];simp
 .rw[h1,h3];simp
def aPZ{v:Aa}{l:List Ah}(hv:IB l v)(hn:l.length<9223372036854775807)(h:Ai){f:FuncId}{caps:List Aa}{p:Ah->Bool}(hk:f<=99999)(hp:∀a∈l,Cy cx f (.str a::caps) h (.bool (p a)) h):
  Cy cx 115 [v,.func (.func f) [] caps] h (.bool (l.any p)) h:=by
 rw[Ag,yX,aEa];simp only[Cx,(aPY hv hn h hk hp).Ae,aBh]
def aKI(t:DF)(ht:t.KB.length<=AV)(w:Ah)(hw:w.length<=AV)(h:Ai):Cy cx 114 [.str w,.B9 (CE t av)] h (.bool (Jv t.KB w)) h:=by
 have hc:(t.KB.take w.length).length<=AV:=by rw[Ay];omega
 rw[Ag,yW,aD9,CE];simp only[Cx];refine⟨λh=>?_,λh=>?_⟩
 .have h:w.length<=t.KB.length:=by omega
  simp only[Cx,sn h,(Ù _ _ hc hw).BH rfl rfl,Jv,h]
 .have h:¬w.length<=t.KB.length:=by omega
  simp[h,Jv]
def OR(t:DF):Bool:=
 if t.k≠1 then false else if t.q=true then true else if t.hn=false then true else if t.name≠aWu then true else if t.hp=false then false
 else HU.any (Xb t.KB)||vH.any (Jv t.KB)||(!t.hs&&dT.any (Jv t.KB))
def f75(t:DF)(ht:t.KB.length<=AV)(h:Ai):Cy cx 67 [.agg (CE t av)] h (.bool (OR t)) h:=by
 have c:=Fh (ws:=vH) (args:=vH.map Aa.str) rfl AA;have g:=Fh (ws:=HU) (args:=HU.map Aa.str) rfl AA;generalize y:(Aa.sl 1 (vH.map Cv))=G at c;generalize v:(Aa.sl 1 (HU.map Cv))=z2 at g;simp only[vH,HU,qE1,qE2,qE3,Bj,DM] at c g;try dsimp only at c g
 rw[<-y] at c;rw[<-v] at g;have w1:∀w∈vH,w.length<=AV:=Ed;have B:∀w∈dT,w.length<=AV:=Ed;have D:∀w∈HU,w.length<=AV:=Ed;have hv:IB HU (.sl 1 (HU.map Cv)):= .mk;have hlen:(HU.map Cv).length=3:=rfl;have oN:HU.length=3:=rfl;have C:=λw hw=>aKI (av:=av) t ht w hw h;have i:=λk=>(aPZ (l:=vH) .mk AA h (f:=114) (caps:=[.B9 (CE t av)]) (p:=Jv t.KB) AA (λa ha=>aKI (av:=av) t ht a (w1 a ha) h)).Ae (k:=k) (Q:=λx vs h1=>x= .ret/\vs=[.bool (OR t)]/\h1=h);have u:=λk=>(C qA (B _ (by simp[dT]))).Ae (k:=k) (Q:=λx vs h1=>x= .ret/\vs=[.bool (OR t)]/\h1=h);have s:=λk=>(C qB (B _ (by simp[dT]))).Ae (k:=k) (Q:=λx vs h1=>x= .ret/\vs=[.bool (OR t)]/\h1=h);have A:dT.any (Jv t.KB)=(Jv t.KB qA||Jv t.KB qB):=by simp[dT]
 have hq:OR t=OR t:=rfl;conv at hq=>rhs;unfold OR
 rw[A] at hq;rw[Ag,R_,t67,CE];rw[CE] at i u s;simp only[QA,Rm,AK,AW,Nat.reduceAdd,↓reduceIte,M9,aZ,aLX];by_cases e:t.k=1;rotate_left;.rw[Af e] at hq;simp only[abS,e,CY,hq]
 rw[Ac (by simp[e])] at hq;simp only[abS,e,CY];cases r:t.q with
 |true=>rw[Af r] at hq;simp only[Cx,hq]
 |false=>
  rw[Ac (by simp[r])] at hq;simp only[Cx];cases o:t.hn with
  |false=>rw[Af o] at hq;simp only[abS,hq]
  |true=>
   rw[Ac (by simp[o])] at hq;simp only[abS];by_cases d:t.name=aWu;rotate_left;.rw[Af d] at hq;simp only[abS,d,hq]
   rw[Ac (by simp[d])] at hq;simp only[abS,d];cases m:t.hp with
   |false=>rw[Af m] at hq;simp only[abS,hq]
   |true=>
    rw[Ac (by simp[m])] at hq;simp only[abS,g,BB.len hv,hlen];refine Co (λn:Nat=>[.bool false,.int .i64 (n:Int)]) (λn h1=>n<=HU.length/\HU.any (Xb t.KB)=(HU.drop n).any (Xb t.KB)/\h1=h) (λn=>HU.length-n) 0 rfl ⟨Bp _,rfl,rfl⟩ ?_;rintro n h1 ⟨E,ha,rfl⟩;rcases Bl n HU.length with hlt|IS
    .have i1:(n:Int)<((3:Nat):Int):=by omega
     have A:(HU.map Cv)[n]'(by rw[hlen];omega)=Cv HU[n]:=AB;have F:decide (Fc t.KB=Fc HU[n])=Xb t.KB HU[n]:=rfl;rw[Az hlt,SV] at ha;simp only[Cx,fX,i1,BB.GY hv (show n<(HU.map Cv).length by rw[hlen];omega),A,Cv,(Ù _ _ ht (D _ (AF hlt))).BH rfl rfl,F,Dw (Ab:n<9223372036854775807)];rw[DC];refine⟨λb=>?_,λb=>?_⟩;.rw[b,Qf] at ha;rw[ha,Qf,Qf] at hq;rw[hq]
     .rw[b,J4] at ha;exact BC.next (n+1) rfl ⟨hlt,ha,rfl⟩ Ab
    .have i1:¬(n:Int)<((3:Nat):Int):=by omega
     rw[AR IS,qE] at ha;rw[ha,J4] at hq;simp only[abS,i1];cases j:t.hs with
     |true=>rw[j] at hq;rw[e,r,o,d,m,j] at i;simp only[abS,c,i];rw[hq];simp
     |false=>
      rw[j] at hq;rw[e,r,o,d,m,j] at i u s;simp only[qA,qB] at u s hq;simp only[abS,↓reduceIte,c,i,u,s,CN,Nat.reduceLeDiff];rw[DC,DC];refine⟨λb=>?_,λb=>⟨λz=>?_,λz=>?_⟩⟩;.rw[hq,b];simp
      .rw[hq,z];simp
      .rw[hq,b,z];simp
end
def Es(m:Int):Bool:=decide ((1<=m/\m<=8)\/m=18)
def aKJ(m:Int):Oz cx 21 [.int .i64 m] (.bool (Es m)):=by rw[Tv,F_,t21];unfold Es;by_cases h1:1<=m<;>by_cases h2:m<=8<;>by_cases h3:m=18<;>simp[h1,h2,h3]
def aP1{t:DF}{av:Aa}(hv:Bw t.As av)(hl:t.As.length<=1000000):∃sj,Bw t.As sj/\∀h,Cy cx 34 [.agg (CE t av)] h (.agg (CE t sj)) h:=by obtain⟨u,e,hu⟩:=BB.Z6 (l:=([]:List Be)) (f:=Be.row) (v:= .slnil) (b:=40) (.inr ⟨rfl,rfl⟩) hv (by simp;have:AV=140737488355328:=rfl;omega);refine⟨u,hu,λh=>?_⟩;have hc:u.cells=[u]:=BB.cells hu;rw[Ag,L_,t34];simp only[Cx,Nat.reduceLeDiff,↓reduceIte,CE,e,hc,AK,AW,M9,aZ]
section
variable{sa:List Be->Bool}{t:DF}{av:Aa}{h:Ai}
def DF.Mc(sa:List Be->Bool)(t:DF):Bool:=decide (t.name.length<=60)&&(decide (t.KB.length<=100)&&(decide (t.sys.length<=100)&&(decide (t.data.length<=200)&&sa t.As)))
def aP2(j:∀{v:Aa} {l:List Be} (h:Ai),Bw l v->Cy cx 28 [v] h (.bool (sa l)) h)(hv:Bw t.As av)(h:Ai):Cy cx 15 [.agg (CE t av)] h (.bool (t.Mc sa)) h:=by
 rw[Ag,aDX,t15];unfold DF.Mc;have b:((t.name.length:Int)<=60)=(t.name.length<=60):=propext Ab;have d:((t.KB.length:Int)<=100)=(t.KB.length<=100):=propext Ab;have f:((t.sys.length:Int)<=100)=(t.sys.length<=100):=propext Ab;have i:((t.data.length:Int)<=200)=(t.data.length<=200):=propext Ab;by_cases a:t.name.length<=60;rotate_left;.simp only[abS,Nat.reduceLeDiff,↓reduceIte,CE,b,a,Wi]
 by_cases c:t.KB.length<=100;rotate_left;.simp only[abS,Nat.reduceLeDiff,↓reduceIte,CE,b,a,d,c,Wi]
 by_cases e:t.sys.length<=100;rotate_left;.simp only[abS,Nat.reduceLeDiff,↓reduceIte,CE,b,a,d,c,f,e,Wi]
 by_cases g:t.data.length<=200;rotate_left;.simp only[abS,Nat.reduceLeDiff,↓reduceIte,CE,b,a,d,c,f,e,i,g,Wi]
 .simp only[abS,Nat.reduceLeDiff,↓reduceIte,CE,b,a,d,c,f,e,i,g,Wi,(j h hv).Ae]
def OS{l:List (DF×Aa)}{v:Aa}(hv:BB 12 (l.map λp=>CE p.1 p.2) v){k:Nat}(hk:k<l.length):AH (.GY 12) [v,.int .i64 (k:Int)]=some (.B9 (CE l[k].1 l[k].2)):=BB.DN hv hk
def aP3(b:∀{v:Aa} {l:List Be} (h:Ai),Bw l v->Cy cx 28 [v] h (.bool (sa l)) h){l:List (DF×Aa)}{v:Aa}(hv:BB 12 (l.map λp=>CE p.1 p.2) v)(ha:∀p∈l,Bw p.1.As p.2){n:Int}(hn:n<=1000000)(h:Ai):Cy cx 5 [v,.int .i64 n] h (.bool (l.all (λp=>p.1.Mc sa)&&decide ((l.length:Int)<=n))) h:=by
 have a:=BB.GN hv;rw[Ag,aIO,t5];refine Co (λk:Nat=>[ff,.int .i64 (k:Int)]) (λk h1=>k<=l.length/\l.all (λp=>p.1.Mc sa)=(l.drop k).all (λp=>p.1.Mc sa)/\h1=h) (λk=>l.length-k) 0 rfl ⟨Bp _,rfl,rfl⟩ ?_;rintro k h1 ⟨hk,Ny,rfl⟩;by_cases hlt:k<l.length
 .have i1:(k:Int)<(l.length:Int):=by omega
  rw[Az hlt,SQ] at Ny;by_cases rY:(k:Int)<=n
  .have r:=aP2 b (ha _ (AF hlt)) h1;have ld:Bn h1 (some 12) (.B9 (CE l[k].1 l[k].2))=some (.agg (CE l[k].1 l[k].2)):=by rw[Po];rfl
   cases hs:l[k].1.Mc sa with
   |true=>rw[hs] at r Ny;rw[eC] at Ny;simp only[abS,a,i1,rY,OS hv hlt,ld,r.Ae,Dw (Ab:k<9223372036854775807)];exact BC.next (k+1) rfl ⟨hlt,Ny,rfl⟩ Ab
   |false=>rw[hs] at r Ny;rw[ZF] at Ny;simp only[abS,a,i1,rY,OS hv hlt,ld,r.Ae,Ny,ZF]
  .simp only[abS,a,i1,rY];have e:decide ((l.length:Int)<=n)=false:=Et;rw[e,Ĳ]
 .have i1:¬(k:Int)<(l.length:Int):=by omega
  rw[AR Ab,List.all_nil] at Ny;simp only[abS,a,i1,Ny,eC]
end
section
variable{h u:Ai}{bi k:Nat}{cs:List Aa}{v:Aa}
def so(hk:k<cs.length):cs.take k++[v]++cs.drop (k+1)=cs.set k v:=by rw[B7,Af hk];simp
def Zo(hl:bi<h.length):(h.set bi (.cells cs)++u)[bi]?=some (.cells cs):=by rw[Al (by simpa using hl),AI hl]
def j8(hl:bi<h.length){x y:GJ}:(h.set bi x++u).set bi y=h.set bi y++u:=by rw[aKY _ _ (by simpa using hl),Nu]
def aBi(hl:bi<h.length):Bn (h.set bi (.cells cs)++u) none (.ptr (some (bi,k)))=cs[k]?:=by simp only[Bn,Zo hl,I4]
def Zp(hl:bi<h.length)(hv:v.cells=[v])(hk:k<cs.length):C9 (h.set bi (.cells cs)++u) 1 (.ptr (some (bi,k))) v=some (h.set bi (.cells (cs.set k v))++u):=by simp only[C9,Zo hl,hv,AS];rw[Af ⟨trivial,Ab⟩,so hk,j8 hl]
def aP4(hl:bi<h.length)(hk:4<cs.length)(m:Int):Cy cx 64 [.ptr (some (bi,0)),.int .i64 m] (h.set bi (.cells cs)++u) tt (h.set bi (.cells (cs.set 4 (.int .i64 m)))++u):=by have e:=Zp (h:=h) (u:=u) (bi:=bi) (k:=4) (cs:=cs) (v:= .int .i64 m) hl rfl hk;rw[Ag,uD,t64];simp only[Cx,e]
def Ua(l:List Int):(l.map Dj).flatten=l.map (Aa.int .i64):=by
 induction l with
 |nil=>rfl
 |cons x l ih=>rw[Bj,CO,ih];rfl
def aP5(l:List Int)(h:Ai)(hb:l.length<=1000000000):∃v u,Cy cx 200078 [.sl 1 (l.map Dj)] h v (h++u)/\((l=[]/\v= .GX 1/\u=[])\/(l≠[]/\v= .Dn h.length 0 l.length 1/\u=[.cells (l.map (Aa.int .i64))])):=by
 have hm:AV=140737488355328:=rfl;cases l with
 |nil=>refine⟨.GX 1,[],?_,.inl ⟨rfl,rfl,rfl⟩⟩;rw[Bg,Ag,SB,WX];have c:Lf h 1 8 (.GX 1) (.sl 1 [])=some (h,.GX 1):=rfl;simp only[Cx,DM,show AH (.Gf false .sl) [.sl 1 [],.slnil]=some (.bool false) from rfl,show AH (.GX 1) []=some (.GX 1) from rfl,c]
 |cons x l=>
  refine⟨_,_,?_,.inr ⟨AB,rfl,rfl⟩⟩;have c:Lf h 1 8 (.GX 1) (.sl 1 ((x::l).map Dj))=some (h++[.cells ((x::l).map (Aa.int .i64))],.Dn h.length 0 (x::l).length 1):=by
   have Se:((x::l).map Dj).length*8<=AV:=by rw[Aw];omega
   rw[<-Ua];simp only[Bj] at Se⊢;simp only[Lf,O3,beq_self_eq_true,BN];rw[Af ⟨trivial,Se⟩];simp
  rw[Ag,SB,WX];simp only[Cx,show AH (.Gf false .sl) [.sl 1 ((x::l).map Dj),.slnil]=some (.bool false) from rfl,show AH (.GX 1) []=some (.GX 1) from rfl,c]
end
section
variable{h h':Ai}{bi:Nat}{b b':BS}{F F':Nat->Prop}{n o a:Nat}
def aP6(w:PB h bi b F)(g:Gz b n o a)(hne:b.tm≠[])(m:Int):Gc h F 87 [.ptr (some (bi,0)),.int .i64 m] tt bi (b.E3 m).1:=by
 have K:=g.rm.tm;have w0:=w;obtain⟨Q,J,c,p,G,w,hc,rfl⟩:=w;have hl:=w.lt;have hpos:=CB.2 hne;obtain⟨cs,hcs⟩:∃cs,cs=SE Q b J c p:=⟨_,rfl⟩;have hb:=w.hb;rw[<-hcs] at hb;have hcl:cs.length=20:=by rw[hcs];rfl
 have R:cs[6]?=some p:=by rw[hcs];rfl
 have y:p= .sl 1 (b.tm.map Dj):=by
  rcases w.t with e|⟨_,e⟩
  .exact e
  .exact absurd (by simpa using e) hne
 have e0:h=h.set bi (.cells cs)++[]:=by rw[Bg,TA hb]
 have lt:=BB.GN w.t;have r:Bn h none (.ptr (some (bi,6)))=some p:=w.l6;obtain⟨l',Ň⟩:∃l',l'=b.tm.dropLast:=⟨_,rfl⟩;have L:l'.length=b.tm.length-1:=by rw[Ň];simp
 have es:AH (.Rb 1 false false true) [p,.int .i64 ((b.tm.length-1:Nat):Int)]=some (.sl 1 (l'.map Dj)):=by
  have B:EP ((b.tm.length-1:Nat):Int) (b.tm.map Dj).length=some (b.tm.length-1):=by unfold EP;rw[Aw,Af Ab];rfl
  rw[y,Ň,Ww];simp only[AH,Jl,DY,B,BV,p9,BN,FO,HA]
 obtain⟨v,u,H,hv⟩:=aP5 l' h Ab;have x:v.cells=[v]:=by rcases hv with⟨_,rfl,_⟩|⟨_,rfl,_⟩<;>rfl
 have B:h++u=h.set bi (.cells cs)++u:=by rw[TA hb]
 have q:C9 (h++u) 1 (.ptr (some (bi,6))) v=some (h.set bi (.cells (cs.set 6 v))++u):=by rw[B];exact Zp hl x Ab
 have E:Cy cx 100091 [.ptr (some (bi,0))] h (.tuple []) (h.set bi (.cells (cs.set 6 v))++u):=by rw[Ag,YM,iW];simp only[abS,r,lt,(Ab:(0:Int)<(b.tm.length:Int)),N8 hpos (Ab:b.tm.length<9223372036854775807),es,H.Ae,q]
 have s:Bn (h.set bi (.cells (cs.set 6 v))++u) none (.ptr (some (bi,6)))=some v:=by rw[aBi hl,AI Ab]
 have em:AH (.CC 1) [.int .i64 m]=some (.sl 1 [[.int .i64 m]]):=rfl;have aVn:AV=140737488355328:=rfl;obtain⟨id,j,d,N,hfz⟩:∃(id:Nat) (j d:Ai),GZ (h.set bi (.cells (cs.set 6 v))++u) 1 8 v (.sl 1 [[.int .i64 m]])=some (h.set bi (.cells (cs.set 6 v))++j,.Dn id 0 (l'.length+1) 1)/\∀ds:List Aa,LW (h.set bi (.cells ds)++j) (.Dn id 0 (l'.length+1) 1)=some (h.set bi (.cells ds)++d,.sl 1 ((l'++[m]).map Dj)):=by
  rcases hv with⟨h0,rfl,rfl⟩|⟨h0,rfl,rfl⟩
  .refine⟨h.length,[.cells [.int .i64 m]],[.Ef],?_,λds=>?_⟩;.rw[h0,Bg];simp[GZ,H0];omega
   .rw[h0];have hg:(h.set bi (.cells ds)++[.cells [Aa.int .i64 m]])[h.length]?=some (.cells [Aa.int .i64 m]):=by rw[Bu AB];simp
    simp only[LW,hg,AW,BE];rw[Af AB];congr 2
    rw[Cc _ _ AB];simp
  .refine⟨h.length+1,[.Ef,.cells ((l'++[m]).map (Aa.int .i64))],[.Ef,.Ef],?_,λds=>?_⟩
   .have hg:(h.set bi (.cells (cs.set 6 (.Dn h.length 0 l'.length 1)))++[.cells (l'.map (Aa.int .i64))])[h.length]?=some (.cells (l'.map Dj).flatten):=by rw[Bu AB,Ua];simp
    have:=Sq (id:=h.length) (z:=1) (b:=8) (v:= .sl 1 [[.int .i64 m]]) (Ax:=l'.map Dj) (r2:=[[.int .i64 m]]) (OC (f:=Dj) (λa=>rfl) l') AA hg .mk AB Et;rw[Aw] at this;rw[this];congr 2
    .rw[Cc _ _ AB];have:([m].map (Aa.int .i64))=[[Aa.int .i64 m]].flatten:=rfl;simp[Ua]
    .simp
   .have hg:(h.set bi (.cells ds)++[GJ.Ef,.cells ((l'++[m]).map (Aa.int .i64))])[h.length+1]?=some (.cells ((l'++[m]).map Dj).flatten):=by rw[Bu AB,Ua];simp
    have:=OB (OC (f:=Dj) (z:=1) (λa=>rfl) (l'++[m])) hg;rw[Aw,Ao,AS] at this;rw[this];congr 2
    rw[Cc _ _ AB];simp
 have õ:=Zp (h:=h) (u:=j) (bi:=bi) (k:=6) (cs:=cs.set 6 v) (v:= .Dn id 0 (l'.length+1) 1) hl rfl Et;rw[Nu] at õ;have I:=aP4 (h:=h) (u:=j) (bi:=bi) (cs:=cs.set 6 (.Dn id 0 (l'.length+1) 1)) hl Et m;have fz:=hfz ((cs.set 6 (.Dn id 0 (l'.length+1) 1)).set 4 (.int .i64 m));have hfa:Lg (h.set bi (.cells ((cs.set 6 (.Dn id 0 (l'.length+1) 1)).set 4 (.int .i64 m)))++j) 6 (.ptr (some (bi,0)))=some (h.set bi (.cells ((cs.set 4 (.int .i64 m)).set 6 (.sl 1 ((l'++[m]).map Dj))))++d):=by
  have A:((cs.set 6 (.Dn id 0 (l'.length+1) 1)).set 4 (.int .i64 m))[0+6]?=some (.Dn id 0 (l'.length+1) 1):=by rw[BE,Aq AA,AI Ab]
  unfold Lg;simp only[Zo hl,A,fz,Cw,j8 hl];congr 3
  rw[BE,List.set_comm _ _ (AA:(4:Nat)≠6),Nu,List.set_comm _ _ (AA:(6:Nat)≠4)]
 have w1:=w0.Mo (u:=d);obtain⟨_,D,_⟩:=GH w1 m;obtain⟨_,C,_⟩:=aKn D (l:=l'++[m]) (v:= .sl 1 ((l'++[m]).map Dj)) .mk;have M:Am.put (Am.put (h++d) bi 4 (.int .i64 m)) bi 6 (.sl 1 ((l'++[m]).map Dj))=h.set bi (.cells ((cs.set 4 (.int .i64 m)).set 6 (.sl 1 ((l'++[m]).map Dj))))++d:=by
  have P:h++d=h.set bi (.cells cs)++d:=by rw[TA hb]
  rw[P,IC (Zo hl),j8 hl,IC (Zo hl),j8 hl]
 rw[M] at C;have O:(b.E3 m).1={{b with mode:=m} with tm:=l'++[m]}:=by rw[Ň];rfl
 rw[O];refine⟨_,_,?_,C,?_⟩;.rw[Ag,Æ,t87];simp only[Cx,E.Ae,s,em,N,õ,I.Ae,hfa]
 .refine⟨AB,λi hi hF=>?_,λi hi=> .inl hi⟩;have aP7:i≠bi:=λe=>hF (.inl e);rw[Al (by simpa using hi),Aq (CZ aP7)]
end
noncomputable def MB(qk:DF->Bool)(t:DF):Nat->BS->BS×Bool
 |0,b=>(b, !Es b.mode)
 |k+1,b=>if Es b.mode=false then(b,true) else if(b.apply qk t).2=false then((b.apply qk t).1,true) else MB qk t k (b.apply qk t).1
section
variable{h h':Ai}{bi:Nat}{b b':BS}{F:Nat->Prop}{t:DF}{av:Aa}
def aP8{qk:DF->Bool}{J:Nat->BS->Prop}(w:PB h bi b F)(ht:t.Sm)(hv:Bw t.As av)(hq:∀{sj:Aa} (h:Ai),Cy cx 67 [.agg (CE t sj)] h (.bool (qk t)) h)
  (hI:∀k c,J (k+1) c->Es c.mode=true->∃n o a,Gz c (n+8*(4*(o+a+8)+10)+8*a+2000) o a/\(c.mode=6->Np c)/\(c.mode=18->c.tm≠[])/\((c.apply qk t).2=true->J k (c.apply qk t).1))
  (h0:J (9+b.tm.length) b) (u:b.tm.length<=1000000000):Gc h F 20 [.ptr (some (bi,0)),.agg (CE t av)] (.bool (MB qk t (9+b.tm.length) b).2) bi (MB qk t (9+b.tm.length) b).1:=by
 obtain⟨z,l6,l⟩:=w.ltm;have lt:=BB.GN l;have WE:t.As.length<=1000000:=by have:=ht.As.1;omega
 have Qa:Ev cx 20 [.ptr (some (bi,0)),.agg (CE t av)] h λr h'=>r= .bool (MB qk t (9+b.tm.length) b).2/\∃F',PB h' bi (MB qk t (9+b.tm.length) b).1 F'/\Fo h F h' F':=by
  unfold Ev;obtain⟨sj,K5,ro⟩:=aP1 hv WE;rw[E_,t20];have y:AH (.int .add) [I 9,.int .i64 (b.tm.length:Int)]=some (.int .i64 ((9+b.tm.length:Nat):Int)):=by rw[TC Ab Ab];simp
  generalize A:9+b.tm.length=N at*;simp only[CE] at ro;simp only[abS,Nat.reduceLeDiff,↓reduceIte,CE,l6,lt,y];refine Co (λk:Nat=>[ff,.int .i64 (k:Int)]) (λk h1=>k<=N/\∃c i,PB h1 bi c i/\J (N-k) c/\Fo h F h1 i/\MB qk t (N-k) c=MB qk t N b) (λk=>N-k) 0 rfl ⟨Bp _,b,F,w,h0,.refl,rfl⟩ ?_;rintro k h1 ⟨hk,c,i,w1,i1,j,d⟩;have l1:=w1.Ci;have e:=aKJ c.mode;by_cases hlt:k<N
  .have f:(k:Int)<(N:Int):=by omega
   obtain⟨r,hr⟩:∃r,N-k=r+1:=⟨N-k-1,Ab⟩;have HY:N-(k+1)=r:=Ab;rw[hr] at i1 d;rw[MB] at d;cases ho:Es c.mode with
   |false=>rw[ho] at e d;rw[Af rfl] at d;simp only[abS,f,l1,e.BH rfl rfl];exact⟨_,rfl,by rw[<-d],i,by rw[<-d];exact w1,j⟩
   |true=>
    rw[ho] at e d;rw[Ac AB] at d;obtain⟨n,o,a,g,x,gf,v⟩:=hI r c i1 ho;obtain⟨h2,s,r2,q,p⟩:=aPX w1 g ht K5 hq x (λhm h' w' m _=>aP6 w' g (gf hm) m);simp only[CE] at r2;cases ha:(c.apply qk t).2 with
    |false=>rw[ha] at r2 d;rw[Af rfl] at d;simp only[abS,f,l1,e.BH rfl rfl,(ro h1).Ae,r2.Ae];exact⟨_,rfl,by rw[<-d],s,by rw[<-d];exact q,j.trans p⟩
    |true=>rw[ha] at r2 d;rw[Ac AB] at d;simp only[abS,f,l1,e.BH rfl rfl,(ro h1).Ae,r2.Ae,Dw (Ab:k<9223372036854775807)];exact BC.next (k+1) rfl ⟨hlt,(c.apply qk t).1,s,q,by rw[HY];exact v ha,j.trans p,by rw[HY];exact d⟩ Ab
  .have f:¬(k:Int)<(N:Int):=by omega
   have hr:N-k=0:=Ab;rw[hr] at d;rw[MB] at d;simp only[abS,f,l1,e.BH rfl rfl];exact⟨_,rfl,by rw[<-d],i,by rw[<-d];exact w1,j⟩
 obtain⟨r,h',hr,rfl,F',hp,hx⟩:=Qa.ret;exact⟨h',F',hr,hp,hx⟩
end
end Go.Am
end
