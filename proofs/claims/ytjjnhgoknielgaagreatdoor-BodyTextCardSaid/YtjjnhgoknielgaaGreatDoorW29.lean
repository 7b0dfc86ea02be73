/- Lemmas -/
import Derived.Test.YtjjnhgoknielgaaGreatDoorW28
set_option linter.all false
set_option maxRecDepth 100000
section
namespace Go.Am
open Go
structure SW(h:Ai)(bi:Nat)(b:BS)(F:Nat->Prop)(si:Nat)(t:Dr)(av:Ab):Prop where
 pb:PB h bi b F
 sc:h[si]?=some (.cells (Pt bi 0::CT t av))
 no:¬F si
section
variable{h h':Ai}{bi si:Nat}{b b':BS}{F F':Nat->Prop}{n o a:Nat}{t:Dr}{av:Ab}
def SW.after(w:SW h bi b F si t av)(p:PB h' bi b' F')(x:FC h F h' F'):SW h' bi b' F' si t av:=by
 have hl:=(Aj.1 w.sc).1;refine⟨p,by rw[x.old si hl w.no];exact w.sc,λhf=>?_⟩;rcases x.BU si hf with h1|h1
 .exact w.no h1
 .omega
def SW.Cj(w:SW h bi b F si t av):Bp h none (Pt si 0)=some (Pt bi 0)/\Bp h (some 12) (Pt si 1)=some (.agg (CT t av))/\Bp h none (Pt si 2)=some (.str t.name)/\Bp h none (Pt si 12)=some (.int .i32 t.r)/\Bp h none (Pt si 10)=some (.bool t.sc)/\Bp h none (Pt bi 1)=some (I b.BM)/\Bp h none (Pt bi 4)=some (I b.mode)/\Bp h none (Pt bi 5)=some (I b.IV)/\Bp h none (Pt bi 7)=some (I b.head)/\Bp h none (Pt bi 8)=some (I b.Ha)/\Bp h none (Pt bi 14)=some (.bool b.fs)/\Bp h none (Pt bi 18)=some (I b.sw)/\Bp h none (Pt bi 19)=some (.bool b.stop):=by refine⟨by simp only[Bp,w.sc];rfl,by simp only[Bp,w.sc];rfl,by simp only[Bp,w.sc];rfl,by simp only[Bp,w.sc];rfl,by simp only[Bp,w.sc];rfl,w.pb.Cj⟩
def rA{s:Ah}:AE (.Cb 1) [.str s]=some (.sl 1 ([s].map Cw)):=Fp (ws:=[s]) rfl AB
def Uo(w:SW h bi b F si t av)(g:Gz b n o a)(s:Ah):CD cx 206 [Pt si 0,.str s] h (.bool (b.has [s])) h:=by have l0:=w.Cj;have c:=Ul w.pb g 1 (Dl (ws:=[s])) AB;rw[Ag,fk,aF5];simp only[abS,l0,rA,c.Af];rfl
def lL(w:SW h bi b F si t av)(g:Gz b n o a)(s ex:Ah):Gn h F 207 [Pt si 0,.str s,.str ex] (.tuple []) bi (b.Dw s ex):=by have l0:=w.Cj;obtain⟨_,h1,l,j,f,d⟩:=M5 w.pb g ex;have w1:=w.after f d;have l1:=w1.Cj;obtain⟨_,h2,k,r2,e,c⟩:=lG f (g.KH Dh) (Dl (ws:=[s])) AB;have i:=w1.after e c;have l2:=i.Cj;refine⟨_,_,?_,e,d.trans c⟩;rw[Ag,fq,aF6];simp only[abS,l0,j.Af,l1,r2.Af,rA]
def ŉ(w:SW h bi b F si t av)(g:Gz b (n+4) o a)(ht:t.Sm)(hv:BF t.As av):Gn h F 131 [Pt si 0] (.tuple []) bi (b.block t):=by have l0:=w.Cj;obtain⟨h1,l,j,f,d⟩:=J8 w.pb g;have w1:=w.after f d;have l1:=w1.Cj;obtain⟨h2,k,r2,e,c⟩:=Fw f g.B7 ht hv;have i:=w1.after e c;have l2:=i.Cj;refine⟨_,_,?_,e,d.trans c⟩;rw[Ag,bz,aFt];simp only[abS,l0,j.Af,l1,r2.Af]
def aQD(s:Ah):NL cx 203 [.str s] (.bool (decide (s∈Dg))):=by
 rw[RU,fg,aF2];match s with
 |[]=>simp[Dg]
 |[a]=>simp[Dg]
 |[a,b]=>
  have e:decide ([a,b]∈Dg)=decide (a.toNat=104/\49<=b.toNat/\b.toNat<=54):=by simp only[Dg,AF,Ej,Mv,Cu,EN,<-UInt8.toNat_inj];have f:UInt8.toNat 104=104/\UInt8.toNat 49=49/\UInt8.toNat 50=50/\UInt8.toNat 51=51/\UInt8.toNat 52=52/\UInt8.toNat 53=53/\UInt8.toNat 54=54:=Az;simp only[f];rw[Fy];omega
  rw[e];have i1:((a.toNat:Int)=104)↔a.toNat=104:=Ac;have d:((49:Int)<=b.toNat)↔49<=b.toNat:=Ac;have i3:((b.toNat:Int)<=54)↔b.toNat<=54:=Ac;have g:((b.toNat:Int)<49)↔b.toNat<49:=Ac;simp[i1,d,i3];by_cases h1:a.toNat=104<;>by_cases h2:49<=b.toNat<;>by_cases h3:b.toNat<=54<;>simp[h1,h2,h3]<;>omega
 |a::b::c::l=>simp[Dg];omega
def Wb(i:Item):i.row=[I i.node,I i.Bd,.str i.name,.bool i.QT]:=rfl
def aQE(w:SW h bi b F si t av)(g:Gz b (n+4) o a)(ht:t.Sm)(hv:BF t.As av):Gn h F 132 [Pt si 0] (.tuple []) bi (b.Iq t):=by
 have m:=(aQD (DP b.B7.Au).name);unfold BS.Iq;dsimp only;by_cases j:(DP b.B7.Au).Bd=1
 .by_cases p:(DP b.B7.Au).name∈Dg;.rw[show AH Dg (DP b.B7.Au)=true by simp[AH,j,p],Ae rfl];rw[Ak p] at m;have l0:=w.Cj;obtain⟨h1,u,k,c,e⟩:=J8 w.pb g;have w1:=w.after c e;have l1:=w1.Cj;have l:=qW c g.B7;obtain⟨h2,s,r2,f,d⟩:=Qg c g.B7;have i:=w1.after f d;have l2:=i.Cj;obtain⟨h3,y,x,r,q⟩:=Fw f g.B7.FB ht hv;have v:=i.after r q;have l3:=v.Cj;refine⟨_,_,?_,r,(e.trans d).trans q⟩;rw[Ag,Xa,ć];simp only[abS,↓reduceIte,l0,k.Af,l1,l.Af,r2.Af,l2,x.Af,Wb,BI j,m.Bz rfl rfl]
  .rw[show AH Dg (DP b.B7.Au)=false by simp[AH,j,p],Aa AB];rw[Ap p] at m;have l0:=w.Cj;obtain⟨h1,u,k,c,e⟩:=J8 w.pb g;have w1:=w.after c e;have l1:=w1.Cj;have l:=qW c g.B7;obtain⟨h2,s,r2,f,d⟩:=Fw c g.B7 ht hv;have i:=w1.after f d;have l2:=i.Cj;refine⟨_,_,?_,f,e.trans d⟩;rw[Ag,Xa,ć];simp only[abS,↓reduceIte,l0,k.Af,l1,l.Af,r2.Af,Wb,BI j,m.Bz rfl rfl]
 .rw[show AH Dg (DP b.B7.Au)=false by simp[AH,j],Aa AB];have l0:=w.Cj;obtain⟨h1,u,k,c,e⟩:=J8 w.pb g;have w1:=w.after c e;have l1:=w1.Cj;have l:=qW c g.B7;obtain⟨h2,s,r2,f,d⟩:=Fw c g.B7 ht hv;have i:=w1.after f d;have l2:=i.Cj;refine⟨_,_,?_,f,e.trans d⟩;rw[Ag,Xa,ć];simp only[abS,↓reduceIte,l0,k.Af,l1,l.Af,r2.Af,Wb,j]
def aQF(w:SW h bi b F si t av)(g:Gz b (n+4) o a)(ht:t.Sm)(hv:BF t.As av):Gn h F 133 [Pt si 0] (.tuple []) bi (b.J4 t):=by have l0:=w.Cj;obtain⟨h1,q,p,k,e⟩:=ŉ w g ht hv;have w1:=w.after k e;have l1:=w1.Cj;obtain⟨r2,j,d⟩:=ŀ k true;have f:=w1.after j d;have l2:=f.Cj;obtain⟨m,i,c⟩:=Mo j false;have l:=f.after i c;have l3:=l.Cj;refine⟨_,_,?_,i,(e.trans d).trans c⟩;rw[Ag,b_,aFu];simp only[abS,p.Af,l1,r2,l2,m]
def aQG(w:SW h bi b F si t av)(g:Gz b (n+4) o a)(ht:t.Sm)(hv:BF t.As av):Gn h F 145 [Pt si 0] (.tuple []) bi (b.MP t):=by
 unfold BS.MP;dsimp only;by_cases k:b.Ha=0
 .by_cases d:b.Ox;.rw[Aa (by simp[k]),Ae d];have l0:=w.Cj;have c:=S2 w.pb g;rw[Ak d] at c;obtain⟨h1,s,m,j,f⟩:=J8 w.pb g;have w1:=w.after j f;have l1:=w1.Cj;obtain⟨h2,r,r2,i,e⟩:=Fw j g.B7 ht hv;have l:=w1.after i e;have l2:=l.Cj;refine⟨_,_,?_,i,f.trans e⟩;rw[Ag,T6,tw];simp only[abS,l0,c.Af,m.Af,l1,r2.Af,l2,BI k,CP]
  .rw[Aa (by simp[k]),Aa d];have l0:=w.Cj;have c:=S2 w.pb g;rw[Ap d] at c;obtain⟨h1,s,m,j,f⟩:=J8 w.pb g;have w1:=w.after j f;have l1:=w1.Cj;obtain⟨h2,r,r2,i,e⟩:=Fw j g.B7 ht hv;have l:=w1.after i e;have l2:=l.Cj;obtain⟨v,q,p⟩:=lH i (b.B7.Li 1);have u:=l.after q p;have l3:=u.Cj;refine⟨_,_,?_,q,(f.trans e).trans p⟩;rw[Ag,T6,tw];simp only[abS,l0,c.Af,m.Af,l1,r2.Af,l2,v,BI k,CP]
 .by_cases d:b.Ox;.rw[Aa (by simp[d]),Ae d];have l0:=w.Cj;have c:=S2 w.pb g;rw[Ak d] at c;obtain⟨h1,s,m,j,f⟩:=J8 w.pb g;have w1:=w.after j f;have l1:=w1.Cj;obtain⟨h2,r,r2,i,e⟩:=Fw j g.B7 ht hv;have l:=w1.after i e;have l2:=l.Cj;refine⟨_,_,?_,i,f.trans e⟩;rw[Ag,T6,tw];simp only[abS,l0,c.Af,m.Af,l1,r2.Af,l2,k,CP]
  .rw[Ae ⟨k,d⟩];have l0:=w.Cj;have c:=S2 w.pb g;rw[Ap d] at c;refine⟨_,_,?_,w.pb,.refl⟩;rw[Ag,T6,tw];simp only[abS,l0,c.Af,k,CP]
def aQH(w:SW h bi b F si t av)(g:Gz b (n+4*a+4) o a)(ht:t.Sm)(hv:BF t.As av):Gn h F 146 [Pt si 0] (.tuple []) bi (b.KX t):=by
 unfold BS.KX;dsimp only;cases u:b.has [aXQ] with
 |true=>have g1:Gz (b.Dw aXQ []) (n+4+4*a) o a:=g.Dw.dn Ac;rw[Ae rfl];have l0:=w.Cj;have i:=Uo w g aXQ;rw[u] at i;obtain⟨h1,z,q,l,e⟩:=lL w g aXQ [];have w1:=w.after l e;have l1:=w1.Cj;obtain⟨h2,y,r2,k,d⟩:=Db l g1;have f:=w1.after k d;have l2:=f.Cj;obtain⟨h3,A,p,j,c⟩:=Fw k g1.AM ht hv;have m:=f.after j c;have l3:=m.Cj;obtain⟨x,s,r⟩:=Mo j false;have v:=m.after s r;have l4:=v.Cj;refine⟨_,_,?_,s,((e.trans d).trans c).trans r⟩;rw[Ag,jB,t146];simp only[abS,l0,i.Af,q.Af,l1,r2.Af,l2,p.Af,l3,x]
 |false=>have g1:Gz b (n+4+4*a) o a:=g.dn Ac;rw[Aa AB];have l0:=w.Cj;have i:=Uo w g aXQ;rw[u] at i;obtain⟨h1,z,q,l,e⟩:=Db w.pb g1;have w1:=w.after l e;have l1:=w1.Cj;obtain⟨h2,y,r2,k,d⟩:=Fw l g1.AM ht hv;have f:=w1.after k d;have l2:=f.Cj;obtain⟨p,j,c⟩:=Mo k false;have m:=f.after j c;have l3:=m.Cj;refine⟨_,_,?_,j,(e.trans d).trans c⟩;rw[Ag,jB,t146];simp only[abS,l0,i.Af,q.Af,l1,r2.Af,l2,p]
def aHB(w:SW h bi b F si t av)(g:Gz b (n+4*a+5) o a)(ht:t.Sm)(hv:BF t.As av):Gn h F 134 [Pt si 0] (.tuple []) bi (b.wR t):=by have g1:Gz b (n+5+4*a) o a:=g.dn Ac;have l0:=w.Cj;obtain⟨h1,l,j,f,d⟩:=Db w.pb g1;have w1:=w.after f d;have l1:=w1.Cj;obtain⟨h2,k,r2,e,c⟩:=Ļ f g1.AM ht hv;have i:=w1.after e c;have l2:=i.Cj;refine⟨_,_,?_,e,d.trans c⟩;rw[Ag,cj,aFv];simp only[abS,l0,j.Af,l1,r2.Af]
def aHC(w:PB h bi b F)(g:Gz b n o a)(x:Int):∃r,Gn h F 213 [Pt bi 3,I x] r bi {b with A3:=BS.Ke b.A3 x}:=by
 obtain⟨i,f,c,tt,G,w,hc,rfl⟩:=w;have pR:=g.rm.A3;have l3:=w.l3;obtain⟨fs,MM,WU⟩:=hc;have Jz:fs.length=b.A3.length:=by rw[<-MM,Aw]
 have d:=f41 w.ud WU Ac x;rw[Zh,MM] at d;by_cases k:FU x b.A3<0
 .have e:BS.Ke b.A3 x=b.A3:=by unfold BS.Ke;rw[Ae k]
  refine⟨ff,h,BU bi G,?_,⟨i,f,c,tt,G,?_,⟨fs,?_,WU⟩,rfl⟩,.refl⟩;.rw[Ag,jR,aBs];simp only[abS,d.Af,BI k]
  .rw[e];exact w
  .rw[e];exact MM
 .have hlt:(FU x b.A3).toNat<fs.length:=by obtain⟨p,hp,e,_⟩:=KW (n:=x) (l:=b.A3) Ac;omega
  obtain⟨u,r2,hu⟩:=aKk (h:=h) WU hlt Ac;have he:((FU x b.A3).toNat:Int)=FU x b.A3:=Ac;rw[he] at r2;have w':=w.Ub (u:=u) (l:=BS.Ke b.A3 x);have ph:EH (BS.Ke b.A3 x) u:=⟨BA fs (FU x b.A3).toNat,by unfold BS.Ke;rw[Aa k,<-MM];unfold BA;simp[HN,Mu],hu⟩;refine⟨.bool true,_,_,?_,⟨i,f,u,tt,G,w',ph,rfl⟩,Cz⟩;rw[Ag,jR,aBs];simp only[abS,d.Af,k,l3,r2.Af,w.st (k:=3) (v0:=c) rfl (Fm.cells hu)]
def aQI(w:SW h bi b F si t av)(g:Gz b (n+4*a+5) o a)(ht:t.Sm)(hv:BF t.As av):Gn h F 135 [Pt si 0] (.tuple []) bi (b.BV t):=by have g1:Gz b (n+1+4+4*a) o a:=g.dn Ac;have l0:=w.Cj;obtain⟨h1,y,u,p,f⟩:=Db w.pb g1;have w1:=w.after p f;have l1:=w1.Cj;obtain⟨h2,x,r2,m,e⟩:=Fw p g1.AM ht hv;have j:=w1.after m e;have l2:=j.Cj;obtain⟨h3,v,s,l,d⟩:=ľ m (g1.AM.Cr ht);have i:=j.after l d;have l3:=i.Cj;obtain⟨r,k,c⟩:=Mo l false;have q:=i.after k c;have l4:=q.Cj;refine⟨_,_,?_,k,((f.trans e).trans d).trans c⟩;rw[Ag,cp,aFw];simp only[abS,l0,u.Af,l1,r2.Af,l2,s.Af,l3,r]
def aQJ(w:SW h bi b F si t av)(g:Gz b (n+8*(4*(o+a+8)+10)+8*a+100) o a)(ht:t.Sm)(hv:BF t.As av):Gn h F 148 [Pt si 0] (.tuple []) bi (b.Ui t):=by
 have g0:Gz b (n+5+4*(a+8)+8*(4*(o+a+8)+10)+4*a) o a:=g.dn Ac;have g1:=g0.AM;unfold BS.Ui;dsimp only;cases s:b.AM.has [aYc] with
 |true=>simp only[BN];have l0:=w.Cj;obtain⟨h1,z,k,i,d⟩:=Db w.pb g0;have w1:=w.after i d;have l1:=w1.Cj;have e:=Uo w1 g1 aYc;rw[s] at e;obtain⟨h2,y,r2,f,c⟩:=ZD i g1 aYc;have j:=w1.after f c;have l2:=j.Cj;obtain⟨h3,C,x,r,m⟩:=Db f g1.C7;have p:=j.after r m;have l3:=p.Cj;obtain⟨A,B,v,q,l⟩:=Ļ r g1.C7.AM ht hv;have u:=p.after q l;have l4:=u.Cj;refine⟨_,_,?_,q,((d.trans c).trans m).trans l⟩;rw[Ag,jD,t148];simp only[abS,l0,k.Af,l1,e.Af,r2.Af,l2,x.Af,l3,v.Af]
 |false=>simp only[B5,DK];have l0:=w.Cj;obtain⟨h1,z,k,i,d⟩:=Db w.pb g0;have w1:=w.after i d;have l1:=w1.Cj;have e:=Uo w1 g1 aYc;rw[s] at e;obtain⟨h2,y,r2,f,c⟩:=Ļ i (g1.dn (n':=n+5) Ac) ht hv;have j:=w1.after f c;have l2:=j.Cj;refine⟨_,_,?_,f,d.trans c⟩;rw[Ag,jD,t148];simp only[abS,l0,k.Af,l1,e.Af,r2.Af]
def aLI(w:PB h bi b F)(g:Gz b n o a):∃x r u,Bp h none (Pt bi 0)=some (Pt x 0)/\CD cx 13 [Pt x 0,I b.BM] h (.tuple [.agg r,I 0]) (h++u)/\r.length=13/\r.getD 10 .nilIface= .bool (b.a.nd b.BM).DX:=by obtain⟨f,i,c,tt,G,w,hc,rfl⟩:=w;have l0:=w.l0;obtain⟨n',m',ps,e⟩:=w.w.pa;obtain⟨r,u,d,K,V,rfl,k,j⟩:=ę (x:=b.BM) e g.rm.WA (g.rm.WA.Bi g.ok.ok _);rw[Ae g.ok.BM.1] at d;exact⟨f,_,u,l0,d,rfl,rfl⟩
def aQK(w:SW h bi b F si t av)(g:Gz b (n+4) o a)(ht:t.Sm)(hv:BF t.As av):Gn h F 149 [Pt si 0] (.tuple []) bi (b.SY t):=by
 obtain⟨x,r,u,lt,rn,KF,Ng⟩:=aLI w.pb g;have y:=w.Cj;have B:SW (h++u) bi b F si t av:=w.after w.pb.L1 ⟨AB,λi hi _=>Al hi,λ_ hf=> .inl hf⟩;have A:FC h F (h++u) F:=⟨AB,λi hi _=>Al hi,λ_ hf=> .inl hf⟩;have key:∀(w:SW (h++u) bi b F si t av),∃h' F',W cx (Cf cx 149 [Pt si 0]) (λx vs h1=>x= .ret/\vs=[.tuple []]/\h1=h') h/\PB h' bi (b.SY t) F'/\FC (h++u) F h' F':=by
  intro w;unfold BS.SY;dsimp only;cases z:(b.a.nd b.BM).DX with
  |true=>rw[z] at Ng;simp only[BN];have l0:=w.Cj;obtain⟨h1,E,q,l,e⟩:=Fw w.pb g ht hv;have w1:=w.after l e;have l1:=w1.Cj;obtain⟨r2,k,d⟩:=Mo l false;have f:=w1.after k d;have l2:=f.Cj;obtain⟨p,j,c⟩:=GU k 9;have m:=f.after j c;have l3:=m.Cj;refine⟨_,_,?_,j,(e.trans d).trans c⟩;rw[jE,aBf];simp only[abS,↓reduceIte,y,lt,rn.Af,KF,Ng,l0,q.Af,l1,r2,l2,p]
  |false=>rw[z] at Ng;simp only[B5,DK];have l0:=w.Cj;obtain⟨h1,E,q,l,e⟩:=J8 w.pb g;have w1:=w.after l e;have l1:=w1.Cj;obtain⟨h2,G,r2,k,d⟩:=Fw l g.B7 ht hv;have f:=w1.after k d;have l2:=f.Cj;obtain⟨p,j,c⟩:=Mo k false;have m:=f.after j c;have l3:=m.Cj;obtain⟨D,v,s⟩:=GU j 9;have C:=m.after v s;have l4:=C.Cj;refine⟨_,_,?_,v,((e.trans d).trans c).trans s⟩;rw[jE,aBf];simp only[abS,↓reduceIte,y,lt,rn.Af,KF,Ng,l0,q.Af,l1,r2.Af,l2,p,l3,D]
 obtain⟨h',F',r',p',x'⟩:=key B;exact⟨h',F',Ag.2 r',p',A.trans x'⟩
def Ŋ(h:Ai)(F:Nat->Prop)(si:Nat)(f:FuncId)(args:List Ab)(r:Ab)(bi:Nat)(b':BS):Prop:=∃h' F',CD cx f args h r h'/\PB h' bi b' F'/\FC h (λi=>F i\/i=si) h' (λi=>F' i\/i=si)
def FC.rB(x:FC h F h' F'):FC h (λi=>F i\/i=si) h' (λi=>F' i\/i=si):=
 ⟨x.len,λi hi hn=>x.old i hi λhf=>hn (.inl hf),λi hi=>by
  rcases hi with hi|hi
  .rcases x.BU i hi with h1|h1
   .exact .inl (.inl h1)
   .exact .inr h1
  .exact .inl (.inr hi)⟩
def Gn.Kj{f:FuncId}{args:List Ab}{r:Ab}(d:Gn h F f args r bi b'):Ŋ h F si f args r bi b':=by obtain⟨h1,i,e,g,c⟩:=d;exact⟨h1,i,e,g,c.rB⟩
def aHD(i:Item)(s:Ah)(h:Ai):CD cx 208 [.agg i.row,.str s] h (.bool (AH [s] i)) h:=by
 rw[Ag,fw,aF7];simp only[Cy,Wb];refine⟨λh1=>?_,λh1=>?_⟩;.simp[AH,h1]
 .simp[AH,h1]
def ŋ(w:SW h bi b F si t av):CD cx 210 [Pt si 0] h (.tuple [I (El b.Au 1).node,.bool b.MH]) h:=by
 have l0:=w.Cj;have d:=aB8 w.pb 1;have r2:=ZF w.pb;have c:=aHD (El b.Au 1) aXS h;rw[Wb] at d c;rw[Ag,fx,aF8];simp only[abS,l0,d.Af,r2.Af,c.Af];refine⟨λh1=>?_,λh1=>?_⟩
 .have:2<=b.Au.length:=by omega
  simp[BS.MH,this]
 .have:¬2<=b.Au.length:=by omega
  simp[BS.MH,this]
def aHE:Lj aZE wDD:=N8 Ed
def aHF:Lj [108,105] [[108,105]]:=N8 Ed
def mq:Lj aY4 bE:=N8 Ed
def aHG:Lj aX1 Dg:=N8 Ed
def aQL(w:SW h bi b F si t av)(g:Gz b (n+4) o a)(ht:t.Sm)(hv:BF t.As av):Gn h F 141 [Pt si 0] (.tuple []) bi (b.SX t):=by
 have ho:=g.rm.Au;obtain⟨G,H,A⟩:=Mo w.pb false;have w1:=w.after H A;have l0:=w.Cj;have l1:=w1.Cj;have g1:Gz {b with fs:=false} (n+4) o a:=g.eq rfl rfl rfl rfl rfl;have ln:=ZF w1.pb;have Ql:Ev cx 141 [Pt si 0] h λr h'=>r= .tuple []/\∃F',PB h' bi (b.SX t) F'/\FC h F h' F':=by
  unfold Ev BS.SX;generalize{b with fs:=false}=c at*;rw[cr,aFy];have e0:(c.Au.length:Int)<=900000000:=by have:=g1.rm.Au;omega
  by_cases z:t.name=[108,105]
  .obtain⟨ws,Ų⟩:∃ws,ws=(if t.name=[108,105] then[[108,105]] else wDD):=⟨_,rfl⟩;have hw:Lj [108,105] ws:=by rw[Ų,Ae z];exact aHF
   rw[<-Ų];clear Ų;simp only[abS,l0,l1,G,BI z,CP,ln.Af,Ek (Ac: -9223372036854775808<=(c.Au.length:Int)-1) (Ac:(c.Au.length:Int)-1<9223372036854775808)];generalize put h bi 14 ff=hs at*;refine Gc (i:=0) (λn:Nat=>[I ((n:Int)-1)]) (λn h1=>n<=c.Au.length/\c.Au.reverse.find? (BS.JU ws)=(c.Au.take n).reverse.find? (BS.JU ws)/\h1=hs) (λn=>n) (λn h1=>∃F',PB h1 bi (c.FW ws) F'/\FC hs F h1 F') c.Au.length rfl ⟨Ad _,by rw[Bl],rfl⟩ ?_ ?_
   .rintro n h1 ⟨hn,ha,rfl⟩;cases n with
    |zero=>
     have e:c.FW ws=c:=by unfold BS.FW;rw[ha];rfl
     simp only[abS,(Ac:¬(0:Int)<=((0:Nat):Int)-1)];exact .If 0 rfl ⟨F,by rw[e];exact w1.pb,.refl⟩
    |succ n=>
     have hlt:n<c.Au.length:=Ac;have i1:((n+1:Nat):Int)-1=(n:Int):=Ac;have r2:=aB8 w1.pb (n:Int);rw[IK hlt] at r2;rw[Ud hlt,Iv] at ha;generalize hi:c.Au[n]=i at*;rw[Wb] at r2;have k:=wV hw i.name;have m:=wV mq i.name;have f:=aBD i.Bd i.name;have sub:=Ek (Ac: -9223372036854775808<=(n:Int)-1) (Ac:(n:Int)-1<9223372036854775808);by_cases q:AH ws i=true
     .have d:i.Bd=1/\i.name∈ws:=by simpa[AH] using q
      rw[Ak d.2] at k;obtain⟨h2,y,u,v,s⟩:=lL w1 g1 i.name i.name;have e:c.FW ws=c.Dw i.name i.name:=by unfold BS.FW;rw[ha];simp[BS.JU,q]
      simp only[abS,↓reduceIte,l1,i1,(Ac:(0:Int)<=(n:Int)),r2.Af,BI d.1,k.Bz rfl rfl,u.Af];exact .If (n+1) (by rw[i1]) ⟨y,by rw[e];exact v,s⟩
     .have l:AH ws i=false:=by simpa using q
      have D:BS.JU ws i=(AS i&& !(AH bE i)):=by simp[BS.JU,l]
      rw[D] at ha;have stop:AS i=true->AH bE i=false->c.FW ws=c:=λh1 h2=>by unfold BS.FW;rw[ha,h1,h2];simp[l]
      have go:(AS i&& !(AH bE i))=false->c.Au.reverse.find? (BS.JU ws)=(c.Au.take n).reverse.find? (BS.JU ws):=λh1=>by rw[ha,h1]
      by_cases d:i.Bd=1
      .have C:i.name∉ws:=λh=>q (by simp[AH,d,h]);rw[Ap C] at k;by_cases j:AS i=true
       .have lM:D5 i.Bd i.name=true:=j;rw[lM] at f;by_cases p:i.name∈bE;.rw[Ak p] at m;simp only[abS,↓reduceIte,l1,i1,(Ac:(0:Int)<=(n:Int)),r2.Af,BI d,k.Bz rfl rfl,m.Bz rfl rfl,f.Bz rfl rfl,sub];exact .next n rfl ⟨Ac,go (by simp[AH,d,p]),rfl⟩ Ac
        .rw[Ap p] at m;simp only[abS,↓reduceIte,l1,i1,(Ac:(0:Int)<=(n:Int)),r2.Af,BI d,k.Bz rfl rfl,m.Bz rfl rfl,f.Bz rfl rfl,sub];exact .If (n+1) (by rw[i1]) ⟨F,by rw[stop j (by simp[AH,p])];exact w1.pb,.refl⟩
       .have lM:D5 i.Bd i.name=false:=by simpa[AS] using j
        rw[lM] at f;simp only[abS,↓reduceIte,l1,i1,(Ac:(0:Int)<=(n:Int)),r2.Af,BI d,k.Bz rfl rfl,f.Bz rfl rfl,sub];exact .next n rfl ⟨Ac,go (by simp[show AS i=false from lM]),rfl⟩ Ac
      .by_cases j:AS i=true;.have lM:D5 i.Bd i.name=true:=j;rw[lM] at f;simp only[abS,↓reduceIte,l1,i1,(Ac:(0:Int)<=(n:Int)),r2.Af,d,f.Bz rfl rfl,sub];exact .If (n+1) (by rw[i1]) ⟨F,by rw[stop j (by simp[AH,d])];exact w1.pb,.refl⟩
       .have lM:D5 i.Bd i.name=false:=by simpa[AS] using j
        rw[lM] at f;simp only[abS,↓reduceIte,l1,i1,(Ac:(0:Int)<=(n:Int)),r2.Af,d,f.Bz rfl rfl,sub];exact .next n rfl ⟨Ac,go (by simp[show AS i=false from lM]),rfl⟩ Ac
   .rintro n h1 ⟨y,B,x⟩;obtain⟨h3,E,u,v,s⟩:=ŉ (w1.after B x) g1.FW ht hv;simp only[Cy,u.Af];exact⟨_,rfl,rfl,E,v,(A.trans x).trans s⟩
  .obtain⟨ws,Ų⟩:∃ws,ws=(if t.name=[108,105] then[[108,105]] else wDD):=⟨_,rfl⟩;have hw:Lj aZE ws:=by rw[Ų,Aa z];exact aHE
   rw[<-Ų];clear Ų;simp only[abS,l0,l1,G,z,CP,ln.Af,Ek (Ac: -9223372036854775808<=(c.Au.length:Int)-1) (Ac:(c.Au.length:Int)-1<9223372036854775808)];generalize put h bi 14 ff=hs at*;refine Gc (i:=0) (λn:Nat=>[I ((n:Int)-1)]) (λn h1=>n<=c.Au.length/\c.Au.reverse.find? (BS.JU ws)=(c.Au.take n).reverse.find? (BS.JU ws)/\h1=hs) (λn=>n) (λn h1=>∃F',PB h1 bi (c.FW ws) F'/\FC hs F h1 F') c.Au.length rfl ⟨Ad _,by rw[Bl],rfl⟩ ?_ ?_
   .rintro n h1 ⟨hn,ha,rfl⟩;cases n with
    |zero=>
     have e:c.FW ws=c:=by unfold BS.FW;rw[ha];rfl
     simp only[abS,(Ac:¬(0:Int)<=((0:Nat):Int)-1)];exact .If 0 rfl ⟨F,by rw[e];exact w1.pb,.refl⟩
    |succ n=>
     have hlt:n<c.Au.length:=Ac;have i1:((n+1:Nat):Int)-1=(n:Int):=Ac;have r2:=aB8 w1.pb (n:Int);rw[IK hlt] at r2;rw[Ud hlt,Iv] at ha;generalize hi:c.Au[n]=i at*;rw[Wb] at r2;have k:=wV hw i.name;have m:=wV mq i.name;have f:=aBD i.Bd i.name;have sub:=Ek (Ac: -9223372036854775808<=(n:Int)-1) (Ac:(n:Int)-1<9223372036854775808);by_cases q:AH ws i=true
     .have d:i.Bd=1/\i.name∈ws:=by simpa[AH] using q
      rw[Ak d.2] at k;obtain⟨h2,y,u,v,s⟩:=lL w1 g1 i.name i.name;have e:c.FW ws=c.Dw i.name i.name:=by unfold BS.FW;rw[ha];simp[BS.JU,q]
      simp only[abS,↓reduceIte,l1,i1,(Ac:(0:Int)<=(n:Int)),r2.Af,BI d.1,k.Bz rfl rfl,u.Af];exact .If (n+1) (by rw[i1]) ⟨y,by rw[e];exact v,s⟩
     .have l:AH ws i=false:=by simpa using q
      have D:BS.JU ws i=(AS i&& !(AH bE i)):=by simp[BS.JU,l]
      rw[D] at ha;have stop:AS i=true->AH bE i=false->c.FW ws=c:=λh1 h2=>by unfold BS.FW;rw[ha,h1,h2];simp[l]
      have go:(AS i&& !(AH bE i))=false->c.Au.reverse.find? (BS.JU ws)=(c.Au.take n).reverse.find? (BS.JU ws):=λh1=>by rw[ha,h1]
      by_cases d:i.Bd=1
      .have C:i.name∉ws:=λh=>q (by simp[AH,d,h]);rw[Ap C] at k;by_cases j:AS i=true
       .have lM:D5 i.Bd i.name=true:=j;rw[lM] at f;by_cases p:i.name∈bE;.rw[Ak p] at m;simp only[abS,↓reduceIte,l1,i1,(Ac:(0:Int)<=(n:Int)),r2.Af,BI d,k.Bz rfl rfl,m.Bz rfl rfl,f.Bz rfl rfl,sub];exact .next n rfl ⟨Ac,go (by simp[AH,d,p]),rfl⟩ Ac
        .rw[Ap p] at m;simp only[abS,↓reduceIte,l1,i1,(Ac:(0:Int)<=(n:Int)),r2.Af,BI d,k.Bz rfl rfl,m.Bz rfl rfl,f.Bz rfl rfl,sub];exact .If (n+1) (by rw[i1]) ⟨F,by rw[stop j (by simp[AH,p])];exact w1.pb,.refl⟩
       .have lM:D5 i.Bd i.name=false:=by simpa[AS] using j
        rw[lM] at f;simp only[abS,↓reduceIte,l1,i1,(Ac:(0:Int)<=(n:Int)),r2.Af,BI d,k.Bz rfl rfl,f.Bz rfl rfl,sub];exact .next n rfl ⟨Ac,go (by simp[show AS i=false from lM]),rfl⟩ Ac
      .by_cases j:AS i=true;.have lM:D5 i.Bd i.name=true:=j;rw[lM] at f;simp only[abS,↓reduceIte,l1,i1,(Ac:(0:Int)<=(n:Int)),r2.Af,d,f.Bz rfl rfl,sub];exact .If (n+1) (by rw[i1]) ⟨F,by rw[stop j (by simp[AH,d])];exact w1.pb,.refl⟩
       .have lM:D5 i.Bd i.name=false:=by simpa[AS] using j
        rw[lM] at f;simp only[abS,↓reduceIte,l1,i1,(Ac:(0:Int)<=(n:Int)),r2.Af,d,f.Bz rfl rfl,sub];exact .next n rfl ⟨Ac,go (by simp[show AS i=false from lM]),rfl⟩ Ac
   .rintro n h1 ⟨y,B,x⟩;obtain⟨h3,E,u,v,s⟩:=ŉ (w1.after B x) g1.FW ht hv;simp only[Cy,u.Af];exact⟨_,rfl,rfl,E,v,(A.trans x).trans s⟩
 obtain⟨r,h',hr,rfl,F',p',x'⟩:=Ql.ret;exact⟨h',F',hr,p',x'⟩
def aHH(w:PB h bi b F)(g:Gz b n o a)(nm:Ah):CD cx 212 [Pt bi 3,.str nm] h (I (DT nm b.A3)) h/\(0<=DT nm b.A3->∃v p,Bp h none (Pt bi 3)=some v/\AE (.Hj 3) [v,I (DT nm b.A3)]=some p/\∃q,AE (.GC 0) [p]=some q/\Bp h none q=some (I (b.A3.getD (DT nm b.A3).toNat Cn.zero).node)):=by
 obtain⟨j,i,c,tt,G,w,hc,rfl⟩:=w;have pR:=g.rm.A3;obtain⟨fs,MM,WU⟩:=hc;have Jz:fs.length=b.A3.length:=by rw[<-MM,Aw]
 have d:=aKg w.ud WU Ac nm;rw[kx,MM] at d;refine⟨d,λh0=>?_⟩;obtain⟨k,e,f⟩:=Zp h0;rw[f,BH];have hk:k<fs.length:=Ac;have ea:=Bx.DN (k:= .i64) WU hk;have hg:b.A3.getD k Cn.zero=fs[k].c:=by rw[AL,<-MM,Dt,Av hk];rfl
 exact⟨c,_,w.l3,ea,_,rfl,by rw[hg];rfl⟩
def aQM(w:SW h bi b F si t av)(g:Gz b (n+8*(4*(o+8)+10)+4*(a+8)+5) o a)(ht:t.Sm)(hv:BF t.As av):Gn h F 147 [Pt si 0] (.tuple []) bi (b.WK t):=by
 obtain⟨m,B⟩:=aHH w.pb g [97];unfold BS.WK BS.Nx;dsimp only;by_cases u:DT [97] b.A3<0;.rw[Ae u];have l0:=w.Cj;obtain⟨h1,H,f,d,c⟩:=aHB w (g.dn (n':=n+4*a+5) Ac) ht hv;have w1:=w.after d c;have l1:=w1.Cj;refine⟨_,_,?_,d,c⟩;rw[Ag,jC,aBe];simp only[Cy,Nat.reduceLeDiff,↓reduceIte,Cl,hZ,l0,f.Af,l1,m.Af,(Ac:¬(0:Int)<=DT [97] b.A3)]
 .rw[Aa u];obtain⟨v,p,G,E,q,D,C⟩:=B Ac;have g0:Gz b (n+4*(a+8)+5+8*(4*(o+8)+10)) o a:=g.dn Ac;generalize(b.A3.getD (DT [97] b.A3).toNat Cn.zero).node=nd at*;have l0:=w.Cj;obtain⟨h1,H,f,d,c⟩:=ZD w.pb g0 [97];have w1:=w.after d c;have l1:=w1.Cj;obtain⟨_,h2,L,r2,s,k⟩:=aHC d g0.C7 nd;have l:=w1.after s k;have l2:=l.Cj;obtain⟨_,h3,K,z,A,j⟩:=ZE s (g0.C7.sub (lo:=(b.C7 [97]).Au) (lc:=BS.Ke (b.C7 [97]).A3 nd) (lt:=(b.C7 [97]).tm) (BR _) Mm (Ad _)) nd;have e:=l.after A j;have l3:=e.Cj;obtain⟨I,J,y,r,i⟩:=aHB e (g0.C7.sub (lo:=Cg nd (b.C7 [97]).Au) (lc:=BS.Ke (b.C7 [97]).A3 nd) (lt:=(b.C7 [97]).tm) EL Mm (Ad _)) ht hv;have x:=e.after r i;have l4:=x.Cj;refine⟨_,_,?_,r,((c.trans k).trans j).trans i⟩;rw[Ag,jC,aBe];simp only[Cy,Nat.reduceLeDiff,↓reduceIte,Cl,hZ,l0,f.Af,l1,r2.Af,l2,z.Af,l3,y.Af,l4,m.Af,(Ac:(0:Int)<=DT [97] b.A3),G,E,D,C]
def rC{x:Bj}{l:List Bj}:BS.Q9 (x::l)=if x.name=aYW then decide (Fk x.value=aYK) else BS.Q9 l:=by
 unfold BS.Q9;rw[Iv];by_cases h:x.name=aYW;.simp[h]
 .simp[h]
def aQN(ht:t.Sm)(hv:BF t.As av)(h:Ai):CD cx 205 [.agg (CT t av)] h (.bool (BS.Q9 t.As)) h:=by
 have Ŵ:AY=140737488355328:=rfl;have Lm:Bx 3 (t.As.map Bj.row) av:=hv;have e:=Bx.GN Lm;have hb:=ht.As.1;have hcl:Fk aYK=aYK:=QU Az;rw[Ag,fj,aF4];simp only[Cy,e];refine Cv (λn:Nat=>[ff,I (n:Int)]) (λn h1=>n<=t.As.length/\h1=h/\BS.Q9 t.As=BS.Q9 (t.As.drop n)) (λn=>t.As.length-n) 0 rfl ⟨Bn _,rfl,rfl⟩ ?_;rintro n h1 ⟨hn,rfl,ha⟩;rcases Bm n t.As.length with hlt|JA
 .have d:=Bx.DN (k:= .i64) Lm hlt;have RT:=(ht.As.2 _ (AG hlt)).2;have c:=Ĕ t.As[n].value aYK Ac Az;rw[hcl] at c;rw[AA hlt,rC] at ha;rw[Bj.row] at d;simp only[abS,Nat.reduceLeDiff,↓reduceIte,(Ac:(n:Int)<(t.As.length:Int)),d,c.Bz rfl rfl,DB (Ac:n<9223372036854775807)];refine⟨λh2=>?_,λh2=>?_⟩;.rw[ha,Ae h2]
  .rw[Aa h2] at ha;exact By.next (n+1) rfl ⟨hlt,rfl,ha⟩ Ac
 .rw[AX JA] at ha;simp only[abS,(Ac:¬(n:Int)<(t.As.length:Int)),ha];rfl
def SW.aB9(w:SW h bi b F si t av)(nm:Ah):Dd h 1 (Pt si 2) (.str nm)=some (put h si 2 (.str nm))/\SW (put h si 2 (.str nm)) bi b F si {t with name:=nm} av/\FC h (λi=>F i\/i=si) (put h si 2 (.str nm)) (λi=>F i\/i=si):=by have hs:At h si 2 (.str t.name):=⟨_,w.sc,rfl⟩;refine⟨hs.store (u:= .str nm) rfl,⟨w.pb.FV λi hi=>Da λe=>w.no (e▸hi),?_,w.no⟩,⟨by rw[MU];exact Ad _,λi _ hn=>Da λe=>hn (.inr e),λ_ h=> .inl h⟩⟩;rw[KC w.sc];rfl
def aLK(w:SW h bi b F si t av)(g:Gz b (n+4*a+4) o a)(ht:t.Sm)(hv:BF t.As av):Ŋ h F si 136 [Pt si 0] (.tuple []) bi (b.empty t):=by
 have A:Gz b (n+4) o a:=g.dn Ac;have g1:Gz b (n+4+4*a) o a:=g.dn Ac;unfold BS.empty;by_cases p:t.name=[104,114];.rw[Ae p];refine Gn.Kj ?_;have l0:=w.Cj;obtain⟨h1,u,m,f,d⟩:=J8 w.pb A;have w1:=w.after f d;have l1:=w1.Cj;obtain⟨h2,y,r2,e,c⟩:=wX f A.B7 ht hv;have j:=w1.after e c;have l2:=j.Cj;obtain⟨r,l,k⟩:=Mo e false;have q:=j.after l k;have l3:=q.Cj;refine⟨_,_,?_,l,(d.trans c).trans k⟩;rw[Ag,MX,aX];simp only[abS,l0,m.Af,l1,r2.Af,l2,r,BI p]
 rw[Aa p];by_cases i:t.name∈aB3
 .rw[Ae i];refine Gn.Kj ?_;have l0:=w.Cj;obtain⟨h1,u,m,f,d⟩:=wX w.pb A ht hv;have w1:=w.after f d;have l1:=w1.Cj;obtain⟨r2,e,c⟩:=Mo f b.fs;have j:=w1.after e c;have l2:=j.Cj;simp only[aB3,AF,Ej,Mv] at i;by_cases x:t.name=aZp
  .skip
   refine⟨_,_,?_,e,d.trans c⟩;rw[Ag,MX,aX];simp only[abS,l0,m.Af,l1,r2,p,BI x]
  by_cases z:t.name=aY7;.refine⟨_,_,?_,e,d.trans c⟩;rw[Ag,MX,aX];simp only[abS,l0,m.Af,l1,r2,p,x,BI z]
  .have E:t.name=aZq:=by simpa[x,z] using i
   refine⟨_,_,?_,e,d.trans c⟩;rw[Ag,MX,aX];simp only[abS,l0,m.Af,l1,r2,p,x,z,BI E]
 rw[Aa i];simp only[aB3,AF,Ej,Mv,P5] at i;by_cases s:t.name=aZf
 .rw[Ae s];refine Gn.Kj ?_;cases kf:b.fs with
  |true=>have l0:=w.Cj;obtain⟨h1,u,m,f,d⟩:=Db w.pb g1;have w1:=w.after f d;have l1:=w1.Cj;have C:=aQN ht hv h1;obtain⟨h2,y,r2,e,c⟩:=wX f g1.AM ht hv;have j:=w1.after e c;have l2:=j.Cj;obtain⟨r,l,k⟩:=Mo e (BS.Q9 t.As);have q:=j.after l k;have l3:=q.Cj;rw[kf] at l0;refine⟨_,_,?_,l,(d.trans c).trans k⟩;rw[Ag,MX,aX];simp only[abS,l0,m.Af,l1,C.Af,r2.Af,l2,r,p,i.1,i.2.1,i.2.2,BI s]
  |false=>have l0:=w.Cj;obtain⟨h1,u,m,f,d⟩:=Db w.pb g1;have w1:=w.after f d;have l1:=w1.Cj;obtain⟨h2,y,r2,e,c⟩:=wX f g1.AM ht hv;have j:=w1.after e c;have l2:=j.Cj;obtain⟨r,l,k⟩:=Mo e false;have q:=j.after l k;have l3:=q.Cj;rw[kf] at l0;refine⟨_,_,?_,l,(d.trans c).trans k⟩;rw[Ag,MX,aX];simp only[abS,l0,m.Af,l1,r2.Af,l2,r,p,i.1,i.2.1,i.2.2,BI s]
 rw[Aa s];by_cases v:t.name=aZk;.rw[Ae v];have D:=w.Cj;obtain⟨s0,w,B⟩:=w.aB9 aZw;have J0:({t with name:=aZw}:Dr).Sm:=ht.rn Az;have l0:=w.Cj;obtain⟨h1,u,m,f,d⟩:=Db w.pb g1;have w1:=w.after f d;have l1:=w1.Cj;obtain⟨h2,y,r2,e,c⟩:=wX f g1.AM J0 hv;have j:=w1.after e c;have l2:=j.Cj;obtain⟨r,l,k⟩:=Mo e false;have q:=j.after l k;have l3:=q.Cj;refine⟨_,_,?_,l,B.trans ((d.trans c).trans k).rB⟩;rw[Ag,MX,aX];simp only[abS,D,p,i.1,i.2.1,i.2.2,s,BI v,s0,l0,m.Af,l1,r2.Af,l2,r]
 .rw[Aa v];refine Gn.Kj ?_;have l0:=w.Cj;obtain⟨h1,u,m,f,d⟩:=Db w.pb g1;have w1:=w.after f d;have l1:=w1.Cj;obtain⟨h2,y,r2,e,c⟩:=wX f g1.AM ht hv;have j:=w1.after e c;have l2:=j.Cj;obtain⟨r,l,k⟩:=Mo e false;have q:=j.after l k;have l3:=q.Cj;refine⟨_,_,?_,l,(d.trans c).trans k⟩;rw[Ag,MX,aX];simp only[abS,l0,m.Af,l1,r2.Af,l2,r,p,i.1,i.2.1,i.2.2,s,v]
def aQO(w:SW h bi b F si t av)(g:Gz b (n+4*a+4) o a)(ht:t.Sm)(hv:BF t.As av):Gn h F 138 [Pt si 0] (.tuple []) bi (b.Zu t):=by
 have v:Gz b (n+4) o a:=g.dn Ac;have g1:Gz b.B7 (n+4+4*a) o a:=g.B7.dn Ac;unfold BS.Zu;by_cases l:t.name=aYr;.rw[Ae l];have l0:=w.Cj;obtain⟨h1,y,k,e,d⟩:=ŉ w v ht hv;have w1:=w.after e d;have l1:=w1.Cj;obtain⟨r2,i,f⟩:=aQs e 5;have j:=w1.after i f;have l2:=j.Cj;refine⟨_,_,?_,i,d.trans f⟩;rw[Ag,RK,wA];simp only[abS,l0,k.Af,l1,r2,BI l]
 rw[Aa l];by_cases m:t.name=aYI;.rw[Ae m];have l0:=w.Cj;obtain⟨h1,y,k,e,d⟩:=ZC w.pb v ht hv 2;have w1:=w.after e d;have l1:=w1.Cj;obtain⟨r2,i,f⟩:=ŀ e true;have j:=w1.after i f;have l2:=j.Cj;obtain⟨x,q,p⟩:=Mo i false;have s:=j.after q p;have l3:=s.Cj;refine⟨_,_,?_,q,(d.trans f).trans p⟩;rw[Ag,RK,wA];simp only[abS,l0,k.Af,l1,r2,l2,x,l,BI m]
 rw[Aa m];by_cases r:t.name=aZx;.rw[Ae r];have l0:=w.Cj;obtain⟨h1,y,k,e,d⟩:=J8 w.pb g;have w1:=w.after e d;have l1:=w1.Cj;obtain⟨h2,D,r2,i,f⟩:=Db e g1;have j:=w1.after i f;have l2:=j.Cj;obtain⟨x,q,p⟩:=Mo i false;have s:=j.after q p;have l3:=s.Cj;obtain⟨E,G,C,A,z⟩:=ZC q (g1.AM.eq (c:={b.B7.AM with fs:=false}) rfl rfl rfl rfl rfl) ht hv 3;have B:=s.after A z;have l4:=B.Cj;refine⟨_,_,?_,A,((d.trans f).trans p).trans z⟩;rw[Ag,RK,wA];simp only[abS,l0,k.Af,l1,r2.Af,l2,x,l3,C.Af,l,m,BI r]
 rw[Aa r];by_cases u:t.name=aYV;.rw[Ae u];have l0:=w.Cj;obtain⟨k,e,d⟩:=Mo w.pb false;have w1:=w.after e d;have l1:=w1.Cj;obtain⟨h2,D,r2,i,f⟩:=ZC e (v.eq (c:={b with fs:=false}) rfl rfl rfl rfl rfl) ht hv 3;have j:=w1.after i f;have l2:=j.Cj;refine⟨_,_,?_,i,d.trans f⟩;rw[Ag,RK,wA];simp only[abS,l0,k,l1,r2.Af,l,m,r,BI u]
 .rw[Aa u];have l0:=w.Cj;obtain⟨h1,y,k,e,d⟩:=ZC w.pb v ht hv 3;have w1:=w.after e d;have l1:=w1.Cj;refine⟨_,_,?_,e,d⟩;rw[Ag,RK,wA];simp only[abS,l0,k.Af,l,m,r,u]
def rD{nm:Ah}{l:List Bj}{sp:Int}:(b.Co nm l sp).mode=b.mode:=by
 unfold BS.Co;split
 .rename_i hs;have e:∀p,(b.Gf nm l sp p).mode=b.mode:=λp=>by unfold BS.Gf;rw[Ae hs]
  simp only[e]
 .rfl
def eY:∀{l:List Cn} {b:BS},(BS.JJ l b).2.mode=b.mode
 |[],b=>rfl
 |e::l,b=>by rw[BS.JJ];simp only;rw[eY,rD]
def aQP(w:SW h bi b F si t av)(g:Gz b (n+4*a+4) o a)(ht:t.Sm)(hv:BF t.As av):Gn h F 150 [Pt si 0] (.tuple []) bi (b.Vl t):=by
 have g1:Gz b (n+4+4*a) o a:=g.dn Ac;have em:(b.AM.Cr t).mode=b.mode:=by unfold BS.Cr;rw[rD];unfold BS.AM;simp only;exact eY
 unfold BS.Vl;by_cases v:b.mode=9;.rw[Ae (.inl v)];have l0:=w.Cj;obtain⟨h1,B,u,p,f⟩:=Db w.pb g1;have w1:=w.after p f;have l1:=w1.Cj;obtain⟨h2,A,r2,m,e⟩:=Fw p g1.AM ht hv;have j:=w1.after m e;have l2:=j.Cj;obtain⟨s,l,d⟩:=Mo m false;have i:=j.after l d;have l3:=i.Cj;simp only[em] at l3;obtain⟨r,k,c⟩:=GU l 17;have q:=i.after k c;have l4:=q.Cj;refine⟨_,_,?_,k,((f.trans e).trans d).trans c⟩;rw[Ag,PR,pT];simp only[abS,l0,u.Af,l1,r2.Af,l2,s,l3,r,BI v]
 by_cases x:b.mode=11;.rw[Ae (.inr (.inl x))];have l0:=w.Cj;obtain⟨h1,B,u,p,f⟩:=Db w.pb g1;have w1:=w.after p f;have l1:=w1.Cj;obtain⟨h2,A,r2,m,e⟩:=Fw p g1.AM ht hv;have j:=w1.after m e;have l2:=j.Cj;obtain⟨s,l,d⟩:=Mo m false;have i:=j.after l d;have l3:=i.Cj;simp only[em] at l3;obtain⟨r,k,c⟩:=GU l 17;have q:=i.after k c;have l4:=q.Cj;refine⟨_,_,?_,k,((f.trans e).trans d).trans c⟩;rw[Ag,PR,pT];simp only[abS,l0,u.Af,l1,r2.Af,l2,s,l3,r,v,BI x]
 by_cases y:b.mode=13;.rw[Ae (.inr (.inr (.inl y)))];have l0:=w.Cj;obtain⟨h1,B,u,p,f⟩:=Db w.pb g1;have w1:=w.after p f;have l1:=w1.Cj;obtain⟨h2,A,r2,m,e⟩:=Fw p g1.AM ht hv;have j:=w1.after m e;have l2:=j.Cj;obtain⟨s,l,d⟩:=Mo m false;have i:=j.after l d;have l3:=i.Cj;simp only[em] at l3;obtain⟨r,k,c⟩:=GU l 17;have q:=i.after k c;have l4:=q.Cj;refine⟨_,_,?_,k,((f.trans e).trans d).trans c⟩;rw[Ag,PR,pT];simp only[abS,l0,u.Af,l1,r2.Af,l2,s,l3,r,v,x,BI y]
 by_cases z:b.mode=14;.rw[Ae (.inr (.inr (.inr (.inl z))))];have l0:=w.Cj;obtain⟨h1,B,u,p,f⟩:=Db w.pb g1;have w1:=w.after p f;have l1:=w1.Cj;obtain⟨h2,A,r2,m,e⟩:=Fw p g1.AM ht hv;have j:=w1.after m e;have l2:=j.Cj;obtain⟨s,l,d⟩:=Mo m false;have i:=j.after l d;have l3:=i.Cj;simp only[em] at l3;obtain⟨r,k,c⟩:=GU l 17;have q:=i.after k c;have l4:=q.Cj;refine⟨_,_,?_,k,((f.trans e).trans d).trans c⟩;rw[Ag,PR,pT];simp only[abS,l0,u.Af,l1,r2.Af,l2,s,l3,r,v,x,y,BI z]
 by_cases C:b.mode=15;.rw[Ae (.inr (.inr (.inr (.inr C))))];have l0:=w.Cj;obtain⟨h1,B,u,p,f⟩:=Db w.pb g1;have w1:=w.after p f;have l1:=w1.Cj;obtain⟨h2,A,r2,m,e⟩:=Fw p g1.AM ht hv;have j:=w1.after m e;have l2:=j.Cj;obtain⟨s,l,d⟩:=Mo m false;have i:=j.after l d;have l3:=i.Cj;simp only[em] at l3;obtain⟨r,k,c⟩:=GU l 17;have q:=i.after k c;have l4:=q.Cj;refine⟨_,_,?_,k,((f.trans e).trans d).trans c⟩;rw[Ag,PR,pT];simp only[abS,l0,u.Af,l1,r2.Af,l2,s,l3,r,v,x,y,z,BI C]
 .rw[Aa (by simp[v,x,y,z,C])];have l0:=w.Cj;obtain⟨h1,B,u,p,f⟩:=Db w.pb g1;have w1:=w.after p f;have l1:=w1.Cj;obtain⟨h2,A,r2,m,e⟩:=Fw p g1.AM ht hv;have j:=w1.after m e;have l2:=j.Cj;obtain⟨s,l,d⟩:=Mo m false;have i:=j.after l d;have l3:=i.Cj;simp only[em] at l3;obtain⟨r,k,c⟩:=GU l 16;have q:=i.after k c;have l4:=q.Cj;refine⟨_,_,?_,k,((f.trans e).trans d).trans c⟩;rw[Ag,PR,pT];simp only[abS,l0,u.Af,l1,r2.Af,l2,s,l3,r,v,x,y,z,C]
def aQQ(w:SW h bi b F si t av)(g:Gz b (n+4*a+4) o a)(ht:t.Sm)(hv:BF t.As av):Gn h F 142 [Pt si 0] (.tuple []) bi (b.KY t):=by
 have g1:Gz b (n+4+4*a) o a:=g.dn Ac;unfold BS.KY;cases q:AH [aX0] (DP b.Au) with
 |true=>rw[Ae rfl];have l0:=w.Cj;have l:=qW w.pb g;have e:=aHD (DP b.Au) aX0 h;rw[q] at e;obtain⟨h1,v,k,i,d⟩:=Qg w.pb g1;have w1:=w.after i d;have l1:=w1.Cj;obtain⟨h2,u,r2,f,c⟩:=Db i g1.FB;have j:=w1.after f c;have l2:=j.Cj;obtain⟨h3,x,s,p,m⟩:=Fw f g1.FB.AM ht hv;have r:=j.after p m;have l3:=r.Cj;refine⟨_,_,?_,p,(d.trans c).trans m⟩;rw[Ag,jA,aBd];simp only[abS,l0,l.Af,e.Af,k.Af,l1,r2.Af,l2,s.Af]
 |false=>rw[Aa AB];have l0:=w.Cj;have l:=qW w.pb g;have e:=aHD (DP b.Au) aX0 h;rw[q] at e;obtain⟨h1,v,k,i,d⟩:=Db w.pb g1;have w1:=w.after i d;have l1:=w1.Cj;obtain⟨h2,u,r2,f,c⟩:=Fw i g1.AM ht hv;have j:=w1.after f c;have l2:=j.Cj;refine⟨_,_,?_,f,d.trans c⟩;rw[Ag,jA,aBd];simp only[abS,l0,l.Af,e.Af,k.Af,l1,r2.Af]
def aQR(w:SW h bi b F si t av)(g:Gz b (n+4) o a)(ht:t.Sm)(hv:BF t.As av):Gn h F 139 [Pt si 0] (.tuple []) bi (b.SZ t):=by
 unfold BS.SZ;cases p:b.has [aYY] with
 |true=>
  rw[Ae rfl];by_cases l:t.name=[114,112];.rw[Ae (.inl l)];have l0:=w.Cj;have d:=Uo w g aYY;rw[p] at d;obtain⟨_,h1,q,j,e,c⟩:=M5 w.pb g aY5;have w1:=w.after e c;have l1:=w1.Cj;obtain⟨h2,r,r2,i,f⟩:=Fw e (g.KH Dh) ht hv;have k:=w1.after i f;have l2:=k.Cj;refine⟨_,_,?_,i,c.trans f⟩;rw[Ag,T4,tq];simp only[abS,l0,d.Af,j.Af,l1,r2.Af,BI l]
  by_cases m:t.name=[114,116];.rw[Ae (.inr m)];have l0:=w.Cj;have d:=Uo w g aYY;rw[p] at d;obtain⟨_,h1,q,j,e,c⟩:=M5 w.pb g aY5;have w1:=w.after e c;have l1:=w1.Cj;obtain⟨h2,r,r2,i,f⟩:=Fw e (g.KH Dh) ht hv;have k:=w1.after i f;have l2:=k.Cj;refine⟨_,_,?_,i,c.trans f⟩;rw[Ag,T4,tq];simp only[abS,l0,d.Af,j.Af,l1,r2.Af,l,BI m]
  .rw[Aa (by simp[l,m])];have l0:=w.Cj;have d:=Uo w g aYY;rw[p] at d;obtain⟨_,h1,q,j,e,c⟩:=M5 w.pb g [];have w1:=w.after e c;have l1:=w1.Cj;obtain⟨h2,r,r2,i,f⟩:=Fw e (g.KH Dh) ht hv;have k:=w1.after i f;have l2:=k.Cj;refine⟨_,_,?_,i,c.trans f⟩;rw[Ag,T4,tq];simp only[abS,l0,d.Af,j.Af,l1,r2.Af,l,m]
 |false=>rw[Aa AB];have l0:=w.Cj;have d:=Uo w g aYY;rw[p] at d;obtain⟨h1,q,j,e,c⟩:=Fw w.pb g ht hv;have w1:=w.after e c;have l1:=w1.Cj;refine⟨_,_,?_,e,c⟩;rw[Ag,T4,tq];simp only[abS,l0,d.Af,j.Af]
def aQS(w:SW h bi b F si t av)(g:Gz b (n+4*a+4) o a)(ht:t.Sm)(hv:BF t.As av):Gn h F 140 [Pt si 0] (.tuple []) bi (b.HR t):=by
 have g1:Gz b (n+4+4*a) o a:=g.dn Ac;unfold BS.HR;dsimp only;by_cases l:t.name=aYG
 .rw[Ae l];cases c:t.sc with
  |true=>rw[Ae rfl];have l0:=w.Cj;rw[c] at l0;obtain⟨h1,u,k,i,e⟩:=Db w.pb g1;have w1:=w.after i e;have l1:=w1.Cj;rw[c] at l1;obtain⟨h2,s,r2,f,d⟩:=lF i g1.AM ht hv 3;have j:=w1.after f d;have l2:=j.Cj;rw[c] at l2;obtain⟨h3,v,r,p,m⟩:=Qg f (g1.AM.Mw ht.As ht.name);have q:=j.after p m;have l3:=q.Cj;refine⟨_,_,?_,p,(e.trans d).trans m⟩;rw[Ag,T5,tr];simp only[abS,l0,k.Af,l1,r2.Af,l2,r.Af,BI l]
  |false=>rw[Aa AB];have l0:=w.Cj;rw[c] at l0;obtain⟨h1,u,k,i,e⟩:=Db w.pb g1;have w1:=w.after i e;have l1:=w1.Cj;rw[c] at l1;obtain⟨h2,s,r2,f,d⟩:=lF i g1.AM ht hv 3;have j:=w1.after f d;have l2:=j.Cj;rw[c] at l2;refine⟨_,_,?_,f,e.trans d⟩;rw[Ag,T5,tr];simp only[abS,l0,k.Af,l1,r2.Af,l2,BI l]
 .rw[Aa l];cases c:t.sc with
  |true=>rw[Ae rfl];have l0:=w.Cj;rw[c] at l0;obtain⟨h1,u,k,i,e⟩:=Db w.pb g1;have w1:=w.after i e;have l1:=w1.Cj;rw[c] at l1;obtain⟨h2,s,r2,f,d⟩:=lF i g1.AM ht hv 2;have j:=w1.after f d;have l2:=j.Cj;rw[c] at l2;obtain⟨h3,v,r,p,m⟩:=Qg f (g1.AM.Mw ht.As ht.name);have q:=j.after p m;have l3:=q.Cj;refine⟨_,_,?_,p,(e.trans d).trans m⟩;rw[Ag,T5,tr];simp only[abS,l0,k.Af,l1,r2.Af,l2,r.Af,l]
  |false=>rw[Aa AB];have l0:=w.Cj;rw[c] at l0;obtain⟨h1,u,k,i,e⟩:=Db w.pb g1;have w1:=w.after i e;have l1:=w1.Cj;rw[c] at l1;obtain⟨h2,s,r2,f,d⟩:=lF i g1.AM ht hv 2;have j:=w1.after f d;have l2:=j.Cj;rw[c] at l2;refine⟨_,_,?_,f,e.trans d⟩;rw[Ag,T5,tr];simp only[abS,l0,k.Af,l1,r2.Af,l2,l]
def aLL(w:SW h bi b F si t av)(g:Gz b (n+1000) o a)(ht:t.Sm)(hv:BF t.As av):Gn h F 143 [Pt si 0] (.tuple []) bi (b.Jq t):=by
 unfold BS.Jq;by_cases k:b.Ox;.rw[Ae (.inl k)];have l0:=w.Cj;have d:=S2 w.pb g;rw[Ak k] at d;refine⟨_,_,?_,w.pb,.refl⟩;rw[Ag,RL,wB];simp only[abS,l0,d.Af]
 by_cases q:b.Au=[];.rw[Ae (.inr q)];have l0:=w.Cj;have d:=S2 w.pb g;rw[Ap k] at d;have i:=ZF w.pb;refine⟨_,_,?_,w.pb,.refl⟩;rw[Ag,RL,wB];simp only[Cy,hZ,l0,d.Af,i.Af,show((b.Au.length:Int)=0)=True from BI (by rw[q];rfl)]
 have j:¬(b.Au.length:Int)=0:=λe=>q (C5 Ac);rw[Aa (by simp[k,q])];by_cases p:t.name=aXM;.rw[Ae p];have l0:=w.Cj;have d:=S2 w.pb g;rw[Ap k] at d;have i:=ZF w.pb;have f:=aB8 w.pb 0;obtain⟨h1,z,r,m,l⟩:=mf w.pb g ht hv (El b.Au 0).node;have w1:=w.after m l;have l1:=w1.Cj;refine⟨_,_,?_,m,l⟩;rw[Ag,RL,wB];simp only[abS,l0,d.Af,i.Af,f.Af,r.Af,j,BI p,Wb,DJ]
 rw[Aa p];cases v:b.MH with
 |true=>rw[Ae rfl];have l0:=w.Cj;have d:=S2 w.pb g;rw[Ap k] at d;have i:=ZF w.pb;have f:=ŋ w;rw[v] at f;obtain⟨r,m,l⟩:=Mo w.pb false;have w1:=w.after m l;have l1:=w1.Cj;obtain⟨h2,y,r2,u,s⟩:=mf m (g.eq (c:={b with fs:=false}) rfl rfl rfl rfl rfl) ht hv (El b.Au 1).node;have x:=w1.after u s;have l2:=x.Cj;refine⟨_,_,?_,u,l.trans s⟩;rw[Ag,RL,wB];simp only[abS,l0,d.Af,i.Af,f.Af,r,l1,r2.Af,j,p]
 |false=>rw[Aa AB];have l0:=w.Cj;have d:=S2 w.pb g;rw[Ap k] at d;have i:=ZF w.pb;have f:=ŋ w;rw[v] at f;refine⟨_,_,?_,w.pb,.refl⟩;rw[Ag,RL,wB];simp only[abS,l0,d.Af,i.Af,f.Af,j,p]
def aQU(w:SW h bi b F si t av)(g:Gz b (n+4*a+5) o a)(ht:t.Sm):Gn h F 81 [Pt si 0] (.tuple []) bi (b.HL t):=by
 have g1:Gz b (n+5+4*a) o a:=g.dn Ac;unfold BS.HL;by_cases j:t.r=0;.rw[Ae j];have l0:=w.Cj;refine⟨_,_,?_,w.pb,.refl⟩;rw[Ag,iT,t81];simp only[abS,l0,BI j]
 rw[Aa j];dsimp only;by_cases l:t.E8;.rw[Ae l];have l0:=w.Cj;obtain⟨h1,x,m,i,d⟩:=Db w.pb g1;have w1:=w.after i d;have l1:=w1.Cj;obtain⟨h2,v,r2,f,c⟩:=ZB i g1.AM ht.r;have k:=w1.after f c;have l2:=k.Cj;have e:=Um t av h2;rw[Ak l] at e;refine⟨_,_,?_,f,d.trans c⟩;rw[Ag,iT,t81];simp only[abS,l0,m.Af,l1,r2.Af,l2,e.Af,j]
 .rw[Aa l];have l0:=w.Cj;obtain⟨h1,x,m,i,d⟩:=Db w.pb g1;have w1:=w.after i d;have l1:=w1.Cj;obtain⟨h2,v,r2,f,c⟩:=ZB i g1.AM ht.r;have k:=w1.after f c;have l2:=k.Cj;have e:=Um t av h2;rw[Ap l] at e;obtain⟨u,q,p⟩:=Mo f false;have s:=k.after q p;have l3:=s.Cj;refine⟨_,_,?_,q,(d.trans c).trans p⟩;rw[Ag,iT,t81];simp only[abS,l0,m.Af,l1,r2.Af,l2,e.Af,u,j]
def aLM(w:SW h bi b F si t av)(g:Gz b n o a):Gn h F 155 [Pt si 0] (.tuple []) bi (b.Fa t):=by
 unfold BS.Fa;cases f:b.has [t.name] with
 |true=>rw[Ae rfl];have l0:=w.Cj;have c:=Uo w g t.name;rw[f] at c;obtain⟨h1,j,i,e,d⟩:=lL w g t.name [];have w1:=w.after e d;have l1:=w1.Cj;refine⟨_,_,?_,e,d⟩;rw[Ag,jG,aBh];simp only[Cy,l0,c.Af,i.Af]
 |false=>rw[Aa AB];have l0:=w.Cj;have c:=Uo w g t.name;rw[f] at c;refine⟨_,_,?_,w.pb,.refl⟩;rw[Ag,jG,aBh];simp only[Cy,l0,c.Af]
def aQV(w:SW h bi b F si t av)(g:Gz b n o a):Gn h F 159 [Pt si 0] (.tuple []) bi (b.GA t):=by
 unfold BS.GA;cases j:b.has [t.name] with
 |true=>rw[Ae rfl];have l0:=w.Cj;have c:=Uo w g t.name;rw[j] at c;obtain⟨h1,p,l,i,e⟩:=lL w g t.name [];have w1:=w.after i e;have l1:=w1.Cj;obtain⟨_,h2,m,r2,f,d⟩:=mg i g.Dw;have k:=w1.after f d;have l2:=k.Cj;refine⟨_,_,?_,f,e.trans d⟩;rw[Ag,jJ,aBk];simp only[abS,l0,c.Af,l.Af,l1,r2.Af]
 |false=>rw[Aa AB];have l0:=w.Cj;have c:=Uo w g t.name;rw[j] at c;refine⟨_,_,?_,w.pb,.refl⟩;rw[Ag,jJ,aBk];simp only[Cy,l0,c.Af]
def aQW(w:SW h bi b F si t av)(g:Gz b n o a):Gn h F 158 [Pt si 0] (.tuple []) bi b.FH:=by
 have d:FC h F (h++[.Ef]) F:=⟨AB,λi hi _=>Al hi,λ_ hf=> .inl hf⟩;have j:=Ł aHG h;have w:=w.after w.pb.L1 d;unfold BS.FH;have c:=Ul w.pb g 1 (Dl (ws:=Dg)) Az;have e0:b.N7 1 (AH Dg)=b.has Dg:=rfl;rw[e0] at c;cases m:b.has Dg with
 |true=>rw[m] at c;rw[Ae rfl];have l0:=w.Cj;obtain⟨_,h1,s,q,l,f⟩:=M5 w.pb g [];have w1:=w.after l f;have l1:=w1.Cj;obtain⟨_,h2,r,r2,k,e⟩:=lG l (g.KH Dh) (Dl (ws:=Dg)) Az;have p:=w1.after k e;have l2:=p.Cj;refine⟨_,_,?_,k,d.trans (f.trans e)⟩;rw[Ag,jI,aBj];simp only[abS,j.Af,l0,c.Af,q.Af,l1,r2.Af]
 |false=>rw[m] at c;rw[Aa AB];have l0:=w.Cj;refine⟨_,_,?_,w.pb,d⟩;rw[Ag,jI,aBj];simp only[abS,j.Af,l0,c.Af]
def aLN(w:SW h bi b F si t av)(g:Gz b n o a):Gn h F 154 [Pt si 0] (.bool (b.PZ t).2) bi (b.PZ t).1:=by
 unfold BS.PZ;cases f:b.has [aXS] with
 |true=>rw[Ae rfl];have l0:=w.Cj;have c:=Uo w g aXS;rw[f] at c;obtain⟨i,e,d⟩:=GU w.pb 19;have w1:=w.after e d;have l1:=w1.Cj;refine⟨_,_,?_,e,d⟩;rw[Ag,jF,aBg];simp only[abS,l0,c.Af,i,l1]
 |false=>rw[Aa AB];have l0:=w.Cj;have c:=Uo w g aXS;rw[f] at c;refine⟨_,_,?_,w.pb,.refl⟩;rw[Ag,jF,aBg];simp only[abS,l0,c.Af]
def aQX(w:SW h bi b F si t av)(g:Gz b n o a):Gn h F 161 [Pt si 0] (.tuple []) bi (b.JM t):=by
 unfold BS.JM;by_cases i:b.Ox;.rw[Ae i];have l0:=w.Cj;have e:=S2 w.pb g;rw[Ak i] at e;obtain⟨h1,z,f,c,d⟩:=aLM w g;have w1:=w.after c d;have l1:=w1.Cj;refine⟨_,_,?_,c,d⟩;rw[Ag,T7,tz];simp only[abS,l0,e.Af,f.Af]
 rw[Aa i];have g1:Gz {b with Ha:=0} n o a:=g.eq rfl rfl rfl rfl rfl;by_cases k:b.Ha=0;.rw[Aa (by simp[k])];have l0:=w.Cj;have e:=S2 w.pb g;rw[Ap i] at e;obtain⟨f,c,d⟩:=lH w.pb 0;have w1:=w.after c d;have l1:=w1.Cj;refine⟨_,_,?_,c,d⟩;rw[Ag,T7,tz];simp only[abS,l0,e.Af,f,l1,BI k,CP]
 cases s:b.N7 1 (Bt b.Ha) with
 |true=>rw[Ae ⟨k,rfl⟩];have l0:=w.Cj;have e:=S2 w.pb g;rw[Ap i] at e;obtain⟨f,c,d⟩:=lH w.pb 0;have w1:=w.after c d;have l1:=w1.Cj;have j:=qV c g1 1 b.Ha;rw[show({b with Ha:=0}:BS).N7 1 (Bt b.Ha)=true from s] at j;obtain⟨_,h2,y,r2,r,m⟩:=M5 c g1 [];have p:=w1.after r m;have l2:=p.Cj;obtain⟨_,h3,x,v,q,l⟩:=ZE r (g1.KH (lo:=D6 (CL []) Dm b.Au) Dh) b.Ha;have u:=p.after q l;have l3:=u.Cj;refine⟨_,_,?_,q,(d.trans m).trans l⟩;rw[Ag,T7,tz];simp only[abS,l0,e.Af,f,l1,r2.Af,l2,v.Af,k,CP,j.Af]
 |false=>rw[Aa AB];have l0:=w.Cj;have e:=S2 w.pb g;rw[Ap i] at e;obtain⟨f,c,d⟩:=lH w.pb 0;have w1:=w.after c d;have l1:=w1.Cj;have j:=qV c g1 1 b.Ha;rw[show({b with Ha:=0}:BS).N7 1 (Bt b.Ha)=false from s] at j;refine⟨_,_,?_,c,d⟩;rw[Ag,T7,tz];simp only[abS,l0,e.Af,f,l1,k,CP,j.Af]
def aLO(w:SW h bi b F si t av)(g:Gz b (n+1004) o a)(ht:t.Sm)(hv:BF t.As av)(i:¬t.st [aXM]):Gn h F 129 [Pt si 0] (.bool (b.C2 t).2) bi (b.C2 t).1:=by have l0:=w.Cj;obtain⟨h1,j,f,d,c⟩:=lK w.pb g ht hv (λe=>absurd e i);have w1:=w.after d c;have l1:=w1.Cj;refine⟨_,_,?_,d,c⟩;rw[Ag,bw,aFr];simp only[abS,l0,f.Af]
def aQY(w:SW h bi b F si t av)(g:Gz b (n+8*(4*(o+8)+10)) o a):Gn h F 156 [Pt si 0] (.tuple []) bi (b.C7 t.name):=by have l0:=w.Cj;obtain⟨h1,f,e,d,c⟩:=ZD w.pb g t.name;have w1:=w.after d c;have l1:=w1.Cj;refine⟨_,_,?_,d,c⟩;rw[Ag,cy,aFB];simp only[abS,l0,e.Af]
def aQZ(x:Ab):CD cx 137 [x] h ff h:=by rw[Ag,cq,aFx];simp only[Cy]
def aQ0(w:SW h bi b F si t av)(g:Gz b (n+4) o a):Gn h F 160 [Pt si 0] (.tuple []) bi (b.HS t):=by
 unfold BS.HS;dsimp only;by_cases f:t.name=[112]
 .rw[Ae f,Ae f];have c:=Ul w.pb g 3 (Dl (ws:=[t.name])) AB;cases i:b.N7 3 (AH [t.name]) with
  |true=>rw[i] at c;rw[Ae rfl];have l0:=w.Cj;obtain⟨h1,l,j,e,d⟩:=lL w g t.name t.name;have w1:=w.after e d;have l1:=w1.Cj;refine⟨_,_,?_,e,d⟩;rw[Ag,PS,pU];simp only[abS,l0,j.Af,BI f,c.Af,rA]
  |false=>rw[i] at c;rw[Aa AB];have l0:=w.Cj;have r:=ł [112] h;obtain⟨h1,l,j,e,d⟩:=Fw (t:=Gj [112]) (av:= .slnil) w.pb g (Kf Az) (.inr ⟨rfl,rfl⟩);have w1:=w.after e d;have l1:=w1.Cj;obtain⟨h2,s,r2,p,m⟩:=lL w1 (g.Mw (Kf Az).As (Kf Az).name) t.name t.name;have q:=w1.after p m;have l2:=q.Cj;refine⟨_,_,?_,p,d.trans m⟩;rw[Ag,PS,pU];simp only[abS,l0,r.Af,j.Af,r2.Af,BI f,c.Af,rA,CP,DJ]
 rw[Aa f,Aa f];by_cases k:t.name=[108,105]
 .rw[Ae k];have c:=Ul w.pb g 2 (Dl (ws:=[t.name])) AB;cases i:b.N7 2 (AH [t.name]) with
  |true=>rw[i] at c;rw[Ae rfl];have l0:=w.Cj;obtain⟨h1,l,j,e,d⟩:=lL w g t.name t.name;have w1:=w.after e d;have l1:=w1.Cj;refine⟨_,_,?_,e,d⟩;rw[Ag,PS,pU];simp only[abS,l0,j.Af,f,BI k,c.Af,rA]
  |false=>rw[i] at c;rw[Aa AB];have l0:=w.Cj;refine⟨_,_,?_,w.pb,.refl⟩;rw[Ag,PS,pU];simp only[abS,l0,eq_false f,c.Af,BI k,rA,CP]
 .rw[Aa k];have c:=Ul w.pb g 1 (Dl (ws:=[t.name])) AB;cases i:b.N7 1 (AH [t.name]) with
  |true=>rw[i] at c;rw[Ae rfl];have l0:=w.Cj;obtain⟨h1,l,j,e,d⟩:=lL w g t.name t.name;have w1:=w.after e d;have l1:=w1.Cj;refine⟨_,_,?_,e,d⟩;rw[Ag,PS,pU];simp only[abS,l0,j.Af,f,k,c.Af,rA]
  |false=>rw[i] at c;rw[Aa AB];have l0:=w.Cj;refine⟨_,_,?_,w.pb,.refl⟩;rw[Ag,PS,pU];simp only[abS,l0,f,c.Af,k,rA,CP]
def SW.aHI(w:SW h bi b F si t av)(t':Dr)(vo:Ab):Dd h 12 (Pt si 1) (.agg (CT t' vo))=some (h.set si (.cells (Pt bi 0::CT t' vo)))/\SW (h.set si (.cells (Pt bi 0::CT t' vo))) bi b F si t' vo/\FC h (λi=>F i\/i=si) (h.set si (.cells (Pt bi 0::CT t' vo))) (λi=>F i\/i=si):=by
 have hl:=(Aj.1 w.sc).1;refine⟨by simp only[Dd,w.sc];rfl,⟨w.pb.FV λi hi=>?_,by rw[AI hl],w.no⟩,⟨AB,λi _ hn=>?_,λ_ h=> .inl h⟩⟩;.exact Aq λe=>w.no (by rw[show si=i from e];exact hi)
 .exact Aq λe=>hn (.inr (show i=si from e.symm))
def aQ1(w:SW h bi b F si t av)(g:Gz b (n+4*a+4) o a):Ŋ h F si 162 [Pt si 0] (.tuple []) bi (b.empty (Gj [98,114])):=by have f:=ł [98,114] h;obtain⟨s0,w,d⟩:=w.aHI (Gj [98,114]) .slnil;obtain⟨h1,j,e,i,c⟩:=aLK w g (Kf Az) (.inr ⟨rfl,rfl⟩);refine⟨h1,j,?_,i,d.trans c⟩;rw[Ag,cz,aFC];simp only[Cy,f.Af,s0,e.Af]
def aLP{c n:Nat}{m:Option Nat}{ps:List PN}{A:Ar}{e x:Int}(w:PA h c n m ps A)(j:NN A)(ok:Eo A e)(hx:A.has x):
  ∃h' PV,CD cx 211 [Pt c 0,I x] h (I 0) h'/\PA h' c n m PV (A.cut x)/\FC h (λi=>i∈Gm c n m ps) h' (λi=>i∈Gm c n m PV):=by
 have d:=SS (x:=x) w;rw[Ae hx] at d;obtain⟨h1,bB,g,w1,f⟩:=aDq w j ok hx;refine⟨h1,bB,?_,w1,f⟩;rw[Ag,fy,aF9];simp only[abS,Hh,d.Af,g.Af,CP]
def aLQ(w:PB h bi b F)(g:Gz b n o a){x:Int}(hx:b.a.has x):∃d,Bp h none (Pt bi 0)=some (Pt d 0)/\Gn h F 211 [Pt d 0,I x] (I 0) bi {b with a:=b.a.cut x}:=by
 obtain⟨d,i,c,tt,G,w,hc,rfl⟩:=w;obtain⟨h',j,r,w',x'⟩:=w.step (R:=λh'=>CD cx 211 [Pt d 0,I x] h (I 0) h') λn m ps f=>by obtain⟨h1,bB,r,w1,e⟩:=aLP f g.rm.WA g.ok.ok hx;exact⟨h1,n,m,bB,r,w1,e⟩
 exact⟨d,w.l0,h',_,r,⟨d,i,c,tt,j,w',hc,rfl⟩,x'⟩
def aQ2(w:SW h bi b F si t av)(g:Gz b (n+4) o a)(ht:t.Sm)(hv:BF t.As av):Gn h F 144 [Pt si 0] (.tuple []) bi (b.JL t):=by
 unfold BS.JL;cases f:b.MH with
 |false=>rw[Ae (.inl rfl)];have l0:=w.Cj;have c:=ŋ w;rw[f] at c;refine⟨_,_,?_,w.pb,.refl⟩;rw[Ag,Xb,Ĉ];simp only[abS,l0,c.Af]
 |true=>
 rcases Bool.eq_false_or_eq_true b.fs with m|m
 rotate_left;.rw[Ae (.inr m)];have l0:=w.Cj;have c:=ŋ w;rw[f] at c;rw[m] at l0;refine⟨_,_,?_,w.pb,.refl⟩;rw[Ag,Xb,Ĉ];simp only[abS,l0,c.Af]
 .rw[Aa (by simp[m])];have hi:=g.ok.op _ (V8 f);have l0:=w.Cj;rw[m] at l0;have c:=ŋ w;rw[f] at c;obtain⟨H,E,h1,u,C,x,v⟩:=aLQ w.pb g hi.1;have w1:=w.after x v;have g1:Gz {b with a:=b.a.cut (El b.Au 1).node} (n+4) o a:=⟨g.ok.I5 (iM g.ok.ok hi.1 (by rw[hi.2.1];decide)) vJ,g.rm.I5 qT,g.Au,g.A3⟩;have aWh:2<=b.Au.length:=by unfold BS.MH at f;simp only[Bg,CF] at f;exact f.1
  have Ql:Ev cx 144 [Pt si 0] h λr h'=>r= .tuple []/\∃F',PB h' bi {({b with a:=b.a.cut (El b.Au 1).node,Au:=b.Au.take 1}:BS).Cr t with mode:=20} F'/\FC h F h' F':=by
   unfold Ev;rw[Xb,Ĉ];simp only[abS,l0,c.Af,E,C.Af];refine Gc (i:=0) (λn:Nat=>[]) (λn h2=>1<=n/\n<=b.Au.length/\∃d,PB h2 bi {b with a:=b.a.cut (El b.Au 1).node,Au:=b.Au.take n} d/\FC h1 u h2 d) (λn=>n) (λn h2=>∃d,PB h2 bi {b with a:=b.a.cut (El b.Au 1).node,Au:=b.Au.take 1} d/\FC h1 u h2 d) b.Au.length rfl ⟨Ac,Ad _,u,by rw[Bl];exact x,.refl⟩ ?_ ?_
   .rintro j h2 ⟨Tx,hn,d,e,k⟩;have q:=w1.after e k;have l2:=q.Cj;have ln:=ZF e;have el:(b.Au.take j).length=j:=by rw[Ax];omega
    simp only[el] at ln;have g2:Gz {b with a:=b.a.cut (El b.Au 1).node,Au:=b.Au.take j} (n+4) (o+1) a:=(g1.le Ac Ac (Ad _)).KH (Ch _ _);by_cases hk:j=1;.subst hk;simp only[abS,l2,ln.Af,(Az:¬(1:Int)<((1:Nat):Int))];exact .If 1 rfl ⟨d,e,k⟩
    .obtain⟨h3,y,s,l,p⟩:=Qg e g2;have G:({b with a:=b.a.cut (El b.Au 1).node,Au:=b.Au.take j}:BS).FB={b with a:=b.a.cut (El b.Au 1).node,Au:=b.Au.take (j-1)}:=by unfold BS.FB;simp only[el];rw[Aa Ac,CK,BP Ac]
     rw[G] at l;simp only[abS,l2,ln.Af,(Ac:(1:Int)<(j:Int)),s.Af];exact .next (j-1) rfl ⟨Ac,Ac,y,l,k.trans p⟩ Ac
   .rintro j h2 ⟨d,e,k⟩;have q:=w1.after e k;have l2:=q.Cj;have g2:Gz {b with a:=b.a.cut (El b.Au 1).node,Au:=b.Au.take 1} (n+4) o a:=g1.KH (Ch _ _);obtain⟨h3,y,s,l,p⟩:=Fw e g2 ht hv;have A:=q.after l p;have l3:=A.Cj;obtain⟨B,D,z⟩:=GU l 20;simp only[abS,l2,s.Af,l3,B];exact⟨_,rfl,rfl,_,D,((v.trans k).trans p).trans z⟩
  obtain⟨r,h',hr,rfl,F',hp,hx⟩:=Ql.ret;exact⟨h',F',hr,hp,hx⟩
end
def kr(p:Ah×Ab):Ab×Ab:=(.str p.1,p.2)
def kf(s:Ah):List (Ah×Ab)->Option Ab
 |[]=>none
 |(t,v)::l=>if s=t then some v else kf s l
def kp(s:Ah)(v:Ab):List (Ah×Ab)->List (Ah×Ab)
 |[]=>[(s,v)]
 |(t,u)::l=>if s=t then(s,v)::l else(t,u)::kp s v l
def aDG{s t:Ah}{v:Ab}:∀{l:List (Ah×Ab)},kf t (kp s v l)=if t=s then some v else kf t l
 |[]=>rfl
 |(x,u)::l=>by
  unfold kp;by_cases h:s=x;.rw[Ae h];unfold kf;subst h;split<;>rfl
  .rw[Aa h];unfold kf;rw[aDG];by_cases h1:t=x;.subst h1;rw[Ae rfl,Ae rfl,Aa (C3 h)]
   .rw[Aa h1,Aa h1]
def rE{s:Ah}:∀{l:List (Ah×Ab)},Tj s (l.map kr)=some (kf s l)
 |[]=>rfl
 |(x,u)::l=>by
  simp only[AV,kr,Tj,kf];split;.rfl
  .exact rE
def mr{s:Ah}{v:Ab}:∀{l:List (Ah×Ab)},Oz s v (l.map kr)=some ((kp s v l).map kr)
 |[]=>rfl
 |(x,u)::l=>by
  simp only[AV,kr,Oz,kp];split;.rfl
  .rw[show(List.map kr l)=l.map kr from rfl,mr];rfl
def eZ{s:Ah}:∀{l:List (Ah×Ab)} {i:Nat},kf s l=none->Sp s (l.map kr) i=some none
 |[],_,_=>rfl
 |(x,u)::l,i,h=>by
  unfold kf at h;by_cases e:s=x;.rw[Ae e] at h;cases h
  .rw[Aa e] at h;simp only[AV,kr,Sp,Aa e];exact eZ h
def Ō{s t:Ah}{v:Ab}:∀{l:List (Ah×Ab)},kf s l=none->kf t (l++[(s,v)])=if t=s then some v else kf t l
 |[],_=>rfl
 |(x,u)::l,h=>by
  unfold kf at h;by_cases e:s=x;.rw[Ae e] at h;cases h
  .rw[Aa e] at h;simp only[BD,kf];rw[Ō h];by_cases a:t=x;.subst a;rw[Ae rfl,Ae rfl,Aa (C3 e)]
   .rw[Aa a,Aa a]
def KM(h:Ai)(id:Nat)(d:Ah->Option Ab):Prop:=∃l,h[id]?=some (.map (l.map kr))/\∀s,kf s l=d s
def Fr(id:Nat)(h h':Ai):Prop:=h.length<=h'.length/\∀i,i<h.length->i≠id->h'[i]?=h[i]?
def Fr.refl{id:Nat}{h:Ai}:Fr id h h:=⟨Ad _,λ_ _ _=>rfl⟩
def Fr.trans{id:Nat}{h h1 h2:Ai}(a:Fr id h h1)(b:Fr id h1 h2):Fr id h h2:=⟨Bw a.1 b.1,λi hi hn=>(b.2 i (JV hi a.1) hn).trans (a.2 i hi hn)⟩
def Fr.set{id:Nat}{h:Ai}{o:GX}:Fr id h (h.set id o):=⟨AB,λi _ hn=>Aq (C3 hn)⟩
def Fr.L1{id:Nat}{h u:Ai}:Fr id h (h++u):=⟨AB,λi hi _=>Al hi⟩
section
variable{h:Ai}{id:Nat}{d:Ah->Option Ab}{s:Ah}{v:Ab}
def KM.lt(w:KM h id d):id<h.length:=let⟨_,hl,_⟩:=w;(Aj.1 hl).1
def KM.L1{u:Ai}(w:KM h id d):KM (h++u) id d:=let⟨l,hl,hd⟩:=w;⟨l,by rw[Al w.lt];exact hl,hd⟩
def KM.set(w:KM h id d)(s:Ah)(v:Ab):∃h1,R2 h (.map (some id)) (.str s) v=some h1/\KM h1 id (λt=>if t=s then some v else d t)/\Fr id h h1:=by have hlt:=w.lt;obtain⟨l,hl,hd⟩:=w;refine⟨h.set id (.map ((kp s v l).map kr)),by simp only[R2,hl,mr,BW],⟨kp s v l,by rw[AI hlt],λt=>?_⟩,.set⟩;rw[aDG];simp only[hd]
def KM.get(w:KM h id d)(s:Ah):P6 h .nilFunc false (.map (some id)) (.str s)=some ((d s).getD .nilFunc):=by obtain⟨l,hl,hd⟩:=w;simp only[P6,UG,hl,rE,BW,hd];cases d s<;>rfl
def KM.entry(w:KM h id d)(s:Ah)(hs:d s=none)(v:Ab):∃h0 h1 n v0,Ey (.XB .nilFunc) h [.map (some id),.str s]=some (h0,.tuple [v0,I n])/\Ey .Lo h0 [.map (some id),I n,v]=some (h1,.bool true)/\KM h1 id (λt=>if t=s then some v else d t)/\Fr id h h1:=by
 have hlt:=w.lt;obtain⟨l,hl,hd⟩:=w;have h0:kf s l=none:=(hd s).trans hs;refine⟨h.set id (.map (l.map kr++[(.str s,.nilFunc)])),h.set id (.map ((l++[(s,v)]).map kr)),(l.map kr).length,.nilFunc,?_,?_,⟨l++[(s,v)],by rw[AI hlt],λt=>?_⟩,.set⟩;.simp only[Ey,WQ,hl,eZ h0,BW]
 .simp only[Ey,Tk,AI hlt,BH,Int.natCast_nonneg,BN,Bu (Ad _),Fh,Jy,ND,Ce _ _ (Ad _),mO,B3,AV,CM,kr]
 .rw[Ō h0];simp only[hd]
def lk:List (List Ah×Ab)->Ah->Option Ab
 |[],_=>none
 |(ws,v)::l,s=>if s∈ws then some v else lk l s
def KM.eq{a:Ah->Option Ab}(w:KM h id d)(e:∀s,d s=a s):KM h id a:=let⟨l,hl,hd⟩:=w;⟨l,hl,λs=>(hd s).trans (e s)⟩
def KM.push{L:List (List Ah×Ab)}(w:KM h id (λt=>if t=s then some v else lk L t)):KM h id (lk (([s],v)::L)):=w.eq λt=>by simp only[lk,Bv]
def P2{l:Ah}{ws:List Ah}{L:List (List Ah×Ab)}(x:Lj l ws)(w:KM h id (lk L))(fv:Ab):∃h1,CD cx 128 [.map (some id),.str l,fv] h (.tuple []) h1/\KM h1 id (lk ((ws,fv)::L))/\Fr id h h1:=by
 have hf:=x.few;have Ql:Ev cx 128 [.map (some id),.str l,fv] h λr h1=>r= .tuple []/\KM h1 id (lk ((ws,fv)::L))/\Fr id h h1:=by
  unfold Ev;rw[bu,aFq];have hv:IP ws (.sl 1 (ws.map Cw)):=Dl;have hl:(ws.map Cw).length=ws.length:=Aw ..;simp only[Cy,(Ł x h).Af,Bx.GN hv];refine Gc (i:=0) (λn:Nat=>[I (n:Int)]) (λn h1=>n<=ws.length/\KM h1 id (λs=>if s∈ws.take n then some fv else lk L s)/\Fr id h h1) (λn=>ws.length-n) (λn h1=>KM h1 id (lk ((ws,fv)::L))/\Fr id h h1) 0 rfl ⟨Bn _,w.L1.eq λs=>AB,.L1⟩ ?_ ?_
  .rintro n h1 ⟨hn,a,f1⟩;by_cases hlt:n<ws.length
   .have f:(ws.map Cw)[n]'(by rw[hl];exact hlt)=[.str ws[n]]:=by simp[Cw]
    obtain⟨h2,c,e,f2⟩:=a.set ws[n] fv;simp only[Cy,hZ,(Ac:(n:Int)<(ws.length:Int)),Bx.Hj hv (show n<(ws.map Cw).length by rw[hl];exact hlt),f,c,DB (Ac:n<9223372036854775807)];exact .next (n+1) rfl ⟨hlt,e.eq λs=>by
     simp only[Bb hlt,Ao,Bv];by_cases b:s=ws[n];.simp[b]
     .simp[b],f1.trans f2⟩ Ac
   .simp only[abS,(Ac:¬(n:Int)<(ws.length:Int))];exact .If n rfl ⟨a.eq λs=>by rw[Bf Ac];rfl,f1⟩
  .rintro n h1 ⟨a,f1⟩;simp only[Cy];exact⟨_,rfl,rfl,a,f1⟩
 obtain⟨r,h1,hr,rfl,a,f1⟩:=Ql.ret;exact⟨h1,hr,a,f1⟩
def qf(k:Nat):Ab:= .func (.func 201) [] [.Cd [.func (.func k) [] []]]
def Mq(k:Nat)(h:Ai):CD cx 130 [.func (.func k) [] []] h (qf k) h:=by rw[Ag,bx,aFs];simp only[Cy,qf]
def aLR{k:Nat}{x:Ab}{h':Ai}(hk:k<=99999)(r:CD cx k [x] h (.tuple []) h'):CD cx 201 [x,.Cd [.func (.func k) [] []]] h ff h':=by rw[Ag,fc,aF1];simp only[Cy,CR,A8,Ae hk,r.Af]
def EI:List (List Ah×Ab):=[(Ge,.func (.func 129) [] []),(lA,qf 131),(Dg,qf 132),(aB0,qf 133),(ve,qf 134),(WJ,qf 135),(lB,qf 136),(ls,.func (.func 137) [] []),(qS,qf 138),(ly,qf 139),(aB1,qf 140),(lz,qf 141),(aB2,qf 142),(Q7,qf 143),([aXV],qf 144),([aYd],qf 145),([aXQ],qf 146),([[97]],qf 147),([aYc],qf 148),([aX4],qf 149),([aYp],qf 150)]
def aQ3(h:Ai):∃h1,CD cx 83 [] h (.map (some h.length)) h1/\KM h1 h.length (lk EI.reverse)/\Fr h.length h h1:=by
 have k0:KM (h++[.map []]) h.length (lk []):=⟨[],AB,λs=>rfl⟩;have e0:Fr h.length h (h++[.map []]):= .L1;obtain⟨h1,L,k1,e1⟩:=P2 (N8 Ed:Lj aXN Ge) k0 (.func (.func 129) [] []);try dsimp only at L
 obtain⟨h2,r2,Z,e2⟩:=P2 (N8 Ed:Lj aXO lA) k1 (qf 131);try dsimp only at r2
 obtain⟨h3,K,Y,e3⟩:=P2 (N8 Ed:Lj aX1 Dg) Z (qf 132);try dsimp only at K
 obtain⟨h4,J,X,e4⟩:=P2 (N8 Ed:Lj aZb aB0) Y (qf 133);try dsimp only at J
 obtain⟨h5,I,W,e5⟩:=P2 (N8 Ed:Lj aX2 ve) X (qf 134);try dsimp only at I
 obtain⟨h6,H,V,e6⟩:=P2 (N8 Ed:Lj aX6 WJ) W (qf 135);try dsimp only at H
 obtain⟨h7,G,U,e7⟩:=P2 (N8 Ed:Lj aXT lB) V (qf 136);try dsimp only at G
 obtain⟨h8,F,T,e8⟩:=P2 (N8 Ed:Lj aXU ls) U (.func (.func 137) [] []);try dsimp only at F
 obtain⟨h9,E,S,e9⟩:=P2 (N8 Ed:Lj aYb qS) T (qf 138);try dsimp only at E
 obtain⟨eA,g,Pg,D⟩:=P2 (N8 Ed:Lj aZc ly) S (qf 139);try dsimp only at g
 obtain⟨Te,f,UD,C⟩:=P2 (N8 Ed:Lj aZB aB1) Pg (qf 140);try dsimp only at f
 obtain⟨h12,e,Wa,B⟩:=P2 (N8 Ed:Lj aZC lz) UD (qf 141);try dsimp only at e
 obtain⟨h13,c,eX,A⟩:=P2 (N8 Ed:Lj aYU aB2) Wa (qf 142);try dsimp only at c
 obtain⟨h14,b,ZH,z⟩:=P2 (N8 Ed:Lj aZu Q7) eX (qf 143);try dsimp only at b
 obtain⟨R,h15,P,N,o,t15,rF,y⟩:=ZH.entry aXV Ed (qf 144);replace rF:=rF.push;obtain⟨h16,n,mw,x⟩:=rF.set aYd (qf 145);replace mw:=mw.push;obtain⟨h17,m,vp,w⟩:=mw.set aXQ (qf 146);replace vp:=vp.push;obtain⟨Q,h18,O,M,l,t18,mX,u⟩:=vp.entry [97] Ed (qf 147);replace mX:=mX.push;obtain⟨h19,k,ō,t⟩:=mX.set aYc (qf 148);replace ō:=ō.push;obtain⟨h20,j,ya,r⟩:=ō.set aX4 (qf 149);replace ya:=ya.push;obtain⟨p,i,a,q⟩:=ya.set aYp (qf 150);replace a:=a.push;refine⟨p,?_,a,((((((((((((((((((((e0.trans e1).trans e2).trans e3).trans e4).trans e5).trans e6).trans e7).trans e8).trans e9).trans D).trans C).trans B).trans A).trans z).trans y).trans x).trans w).trans u).trans t).trans r).trans q⟩;rw[Ag,þ,t83];simp only[abS,Nat.reduceLeDiff,↓reduceIte,L.Af,r2.Af,(Mq 131 _).Af,K.Af,(Mq 132 _).Af,J.Af,(Mq 133 _).Af,I.Af,(Mq 134 _).Af,H.Af,(Mq 135 _).Af,G.Af,(Mq 136 _).Af,F.Af,E.Af,(Mq 138 _).Af,g.Af,(Mq 139 _).Af,f.Af,(Mq 140 _).Af,e.Af,(Mq 141 _).Af,c.Af,(Mq 142 _).Af,b.Af,(Mq 143 _).Af,o,t15,(Mq 144 _).Af,n,(Mq 145 _).Af,m,(Mq 146 _).Af,l,t18,(Mq 147 _).Af,k,(Mq 148 _).Af,j,(Mq 149 _).Af,i,(Mq 150 _).Af]
def Qm:List (List Ah×Ab):=[([aXP],.func (.func 129) [] []),([aXS],.func (.func 154) [] []),([aXM],.func (.func 154) [] []),(Q8,qf 155),(Ķ,qf 156),(Dg,qf 158),(WJ,qf 159),(Zt,qf 160),([aYd],qf 161),([[98,114]],qf 162)]
def aQ4(h:Ai):∃h1,CD cx 85 [] h (.map (some h.length)) h1/\KM h1 h.length (lk Qm.reverse)/\Fr h.length h h1:=by
 have y:KM (h++[.map []]) h.length (lk []):=⟨[],AB,λs=>rfl⟩;have e0:Fr h.length h (h++[.map []]):= .L1;obtain⟨h1,q,f,H⟩:=y.set aXP (.func (.func 129) [] []);replace f:=f.push;obtain⟨h2,p,e,G⟩:=f.set aXS (.func (.func 154) [] []);replace e:=e.push;obtain⟨h3,o,c,F⟩:=e.set aXM (.func (.func 154) [] []);replace c:=c.push;obtain⟨N,m,x,E⟩:=P2 (N8 Ed:Lj aXL Q8) c (qf 155);try dsimp only at m
 obtain⟨M,l,w,D⟩:=P2 (N8 Ed:Lj aXW Ķ) x (qf 156);try dsimp only at l
 obtain⟨L,k,u,C⟩:=P2 (N8 Ed:Lj aX1 Dg) w (qf 158);try dsimp only at k
 obtain⟨K,j,t,B⟩:=P2 (N8 Ed:Lj aX6 WJ) u (qf 159);try dsimp only at j
 obtain⟨J,i,r,A⟩:=P2 (N8 Ed:Lj aZo Zt) t (qf 160);try dsimp only at i
 obtain⟨I,n,b,z⟩:=r.set aYd (qf 161);replace b:=b.push;obtain⟨eA,a,Pg,g⟩:=b.set [98,114] (qf 162);replace Pg:=Pg.push;refine⟨eA,?_,Pg,(((((((((e0.trans H).trans G).trans F).trans E).trans D).trans C).trans B).trans A).trans z).trans g⟩;rw[Ag,Ā,t85];simp only[abS,Nat.reduceLeDiff,↓reduceIte,q,p,o,m.Af,(Mq 155 _).Af,l.Af,(Mq 156 _).Af,k.Af,(Mq 158 _).Af,j.Af,(Mq 159 _).Af,i.Af,(Mq 160 _).Af,n,(Mq 161 _).Af,a,(Mq 162 _).Af]
def Ŏ:∀{L M:List (List Ah×Ab)},lk (L++M) s=(lk L s).or (lk M s)
 |[],M=>by simp[lk]
 |(ws,v)::L,M=>by
  simp only[BD,lk];split;.rfl
  .exact Ŏ
def my:∀{L:List (List Ah×Ab)},(∀g∈L,s∉g.1)->lk L s=none
 |[],_=>rfl
 |(ws,v)::L,h=>by simp only[lk];rw[Aa (h (ws,v) (.head _))];exact my λg hg=>h g (.tail _ hg)
def wZ:∀{L:List (List Ah×Ab)},L.Pairwise (λa b=>∀x∈a.1,x∉b.1)->lk L.reverse s=lk L s
 |[],_=>rfl
 |(ws,v)::L,h=>by
  cases h with
  |cons h1 h2=>
   rw[EX,Ŏ,wZ h2];simp only[lk];by_cases c:s∈ws;.rw[Ae c,Ae c,my λg hg=>h1 g hg s c];rfl
   .rw[Aa c,Aa c];cases lk L s<;>rfl
def ŏ:lk EI.reverse s=lk EI s:=wZ Ed
def aHK:lk Qm.reverse s=lk Qm s:=wZ Ed
end
section
variable{h h':Ai}{bi si:Nat}{b b':BS}{F F':Nat->Prop}{n o a:Nat}{t:Dr}{av:Ab}
def F5(bi:Nat)(t:Dr)(av:Ab):GX:= .cells (Pt bi 0::CT t av)
def SW.new(w:PB h bi b F)(t:Dr)(av:Ab):SW (h++[F5 bi t av]) bi b F h.length t av:=
 ⟨w.L1,by simp[F5],λhf=>DI _ (w.lt hf)⟩
def SW.fr(w:SW h bi b F si t av){id:Nat}(JB:h.length<=id)(f:Fr id h h'):SW h' bi b F si t av:=by have hl:=(Aj.1 w.sc).1;exact⟨w.pb.FV λi hi=>f.2 i (w.pb.lt hi) (by have:=w.pb.lt hi;omega),by rw[f.2 si hl Ac];exact w.sc,w.no⟩
def K0{k h2:Ai}{id:Nat}{x:GX}(JB:(h++[x]).length<=id)(f:Fr id (h++[x]) k)(e:FC k (λi=>F i\/i=h.length) h2 (λi=>F' i\/i=h.length)):FC h F h2 F':=by
 have l1:(h++[x]).length=h.length+1:=AB;have l2:=f.1;have l3:=e.len;refine⟨Ac,λi hi hn=>?_,λi hf=>?_⟩;.rw[e.old i Ac (λh=>by rcases h with h|h;exact hn h;omega),f.2 i Ac Ac,Al hi]
 .rcases e.BU i (.inl hf) with(h1|h1)|h1
  .exact .inl h1
  .exact .inr Ac
  .exact .inr Ac
def xA(h0:Ai):∃h1,CD cx 83 [] h0 (.map (some h0.length)) h1/\Fr h0.length h0 h1/\∀s,P6 h1 .nilFunc false (.map (some h0.length)) (.str s)=some ((lk EI s).getD .nilFunc):=by obtain⟨h1,r,k,f⟩:=aQ3 h0;exact⟨h1,r,f,λs=>by rw[k.get,ŏ]⟩
def aHL(h0:Ai):∃h1,CD cx 85 [] h0 (.map (some h0.length)) h1/\Fr h0.length h0 h1/\∀s,P6 h1 .nilFunc false (.map (some h0.length)) (.str s)=some ((lk Qm s).getD .nilFunc):=by obtain⟨h1,r,k,f⟩:=aQ4 h0;exact⟨h1,r,f,λs=>by rw[k.get,aHK]⟩
def bI{k:Int}(hk:t.k=k)(h:1<=k/\k<=6):t.ok:=by unfold Dr.ok;omega
def P3{k:Nat}{x y:List Ab}:AE (.Gs true .fn) [.func (.func k) x y,.nilFunc]=some tt:=rfl
def ZI:AE (.Gs true .fn) [.nilFunc,.nilFunc]=some ff:=rfl
def O6(w:PB h bi b F)(hk:t.k=2){k:Nat}(e:lk EI t.name=some (qf k))(g:k<=99999)(d:∀h1,SW h1 bi b F h.length t av->Ŋ h1 F h.length k [Pt h.length 0] (.tuple []) bi b'):Gn h F 51 [Pt bi 0,.agg (CT t av)] ff bi b':=by have w0:=SW.new w t av;obtain⟨h1,i,f1,g1⟩:=xA (h++[F5 bi t av]);have w1:=w0.fr (Ad _) f1;obtain⟨h2,m,r2,l,j⟩:=d h1 w1;have f:=KJ w t av;rw[Ak (bI hk Az)] at f;have c:=g1 t.name;rw[e] at c;refine⟨h2,m,?_,l,K0 (Ad _) f1 j⟩;rw[Ag,LJ,t51];simp only[F5,CT,hk,An,AJ,AZ] at i f c;simp only[abS,Nat.reduceLeDiff,↓reduceIte,Cl,CT,P3,f.Af,hk,(Az:¬(2:Int)=5),(Az:¬(2:Int)=4),(Az:¬(2:Int)=6),i.Af,c,Fx,qf,CR,A8,(aLR g r2).Af]
def aLS(w:PB h bi b F)(hk:t.k=2){k:Nat}{r:Bool}(e:lk EI t.name=some (.func (.func k) [] []))(g:k<=99999)(d:∀h1,SW h1 bi b F h.length t av->Gn h1 F k [Pt h.length 0] (.bool r) bi b'):Gn h F 51 [Pt bi 0,.agg (CT t av)] (.bool r) bi b':=by have w0:=SW.new w t av;obtain⟨h1,i,f1,g1⟩:=xA (h++[F5 bi t av]);have w1:=w0.fr (Ad _) f1;obtain⟨h2,m,r2,l,j⟩:=(d h1 w1).Kj (si:=h.length);have f:=KJ w t av;rw[Ak (bI hk Az)] at f;have c:=g1 t.name;rw[e] at c;refine⟨h2,m,?_,l,K0 (Ad _) f1 j⟩;rw[Ag,LJ,t51];simp only[F5,CT,hk,An,AJ,AZ] at i f c;simp only[abS,Nat.reduceLeDiff,↓reduceIte,Cl,CT,P3,f.Af,hk,(Az:¬(2:Int)=5),(Az:¬(2:Int)=4),(Az:¬(2:Int)=6),i.Af,c,Fx,CR,A8,g,r2.Af]
def aQ5(w:PB h bi b F)(g:Gz b (n+4*a+4) o a)(ht:t.Sm)(hv:BF t.As av)(hk:t.k=2)(e:lk EI t.name=none):Gn h F 51 [Pt bi 0,.agg (CT t av)] ff bi (b.AM.Cr t):=by have w0:=SW.new w t av;obtain⟨h1,i,f1,g1⟩:=xA (h++[F5 bi t av]);have w1:=w0.fr (Ad _) f1;have j:Gz b (n+4+4*a) o a:=g.dn Ac;obtain⟨h2,s,r2,q,m⟩:=Db w1.pb j;obtain⟨h3,r,f,p,l⟩:=Fw q j.AM ht hv;have d:=KJ w t av;rw[Ak (bI hk Az)] at d;have c:=g1 t.name;rw[e] at c;refine⟨h3,r,?_,p,K0 (Ad _) f1 (m.trans l).rB⟩;rw[Ag,LJ,t51];simp only[F5,CT,hk,An,AJ,AZ] at i d c f;simp only[abS,Nat.reduceLeDiff,↓reduceIte,Cl,CT,ZI,d.Af,hk,(Az:¬(2:Int)=5),(Az:¬(2:Int)=4),(Az:¬(2:Int)=6),i.Af,c,yF,r2.Af,f.Af]
def xB(w:PB h bi b F)(hk:t.k=3){k:Nat}(e:lk Qm t.name=some (qf k))(g:k<=99999)(d:∀h1,SW h1 bi b F h.length t av->Ŋ h1 F h.length k [Pt h.length 0] (.tuple []) bi b'):Gn h F 51 [Pt bi 0,.agg (CT t av)] ff bi b':=by have w0:=SW.new w t av;obtain⟨h1,i,f1,g1⟩:=aHL (h++[F5 bi t av]);have w1:=w0.fr (Ad _) f1;obtain⟨h2,m,r2,l,j⟩:=d h1 w1;have f:=KJ w t av;rw[Ak (bI hk Az)] at f;have c:=g1 t.name;rw[e] at c;refine⟨h2,m,?_,l,K0 (Ad _) f1 j⟩;rw[Ag,LJ,t51];simp only[F5,CT,hk,An,AJ,AZ] at i f c;simp only[abS,Nat.reduceLeDiff,↓reduceIte,Cl,CT,P3,f.Af,hk,(Az:¬(3:Int)=5),(Az:¬(3:Int)=4),(Az:¬(3:Int)=6),(Az:¬(3:Int)=2),i.Af,c,Fx,qf,CR,A8,(aLR g r2).Af]
def aHM(w:PB h bi b F)(hk:t.k=3){k:Nat}{r:Bool}(e:lk Qm t.name=some (.func (.func k) [] []))(g:k<=99999)(d:∀h1,SW h1 bi b F h.length t av->Gn h1 F k [Pt h.length 0] (.bool r) bi b'):Gn h F 51 [Pt bi 0,.agg (CT t av)] (.bool r) bi b':=by have w0:=SW.new w t av;obtain⟨h1,i,f1,g1⟩:=aHL (h++[F5 bi t av]);have w1:=w0.fr (Ad _) f1;obtain⟨h2,m,r2,l,j⟩:=(d h1 w1).Kj (si:=h.length);have f:=KJ w t av;rw[Ak (bI hk Az)] at f;have c:=g1 t.name;rw[e] at c;refine⟨h2,m,?_,l,K0 (Ad _) f1 j⟩;rw[Ag,LJ,t51];simp only[F5,CT,hk,An,AJ,AZ] at i f c;simp only[abS,Nat.reduceLeDiff,↓reduceIte,Cl,CT,P3,f.Af,hk,(Az:¬(3:Int)=5),(Az:¬(3:Int)=4),(Az:¬(3:Int)=6),(Az:¬(3:Int)=2),i.Af,c,Fx,CR,A8,g,r2.Af]
def aQ6(w:PB h bi b F)(g:Gz b n o a)(hk:t.k=3)(e:lk Qm t.name=none):Gn h F 51 [Pt bi 0,.agg (CT t av)] ff bi (b.C1 t.name):=by have w0:=SW.new w t av;obtain⟨h1,f,f1,g1⟩:=aHL (h++[F5 bi t av]);have w1:=w0.fr (Ad _) f1;obtain⟨h2,l,r2,j,i⟩:=ļ w1.pb g t.name;have d:=KJ w t av;rw[Ak (bI hk Az)] at d;have c:=g1 t.name;rw[e] at c;refine⟨h2,l,?_,j,K0 (Ad _) f1 i.rB⟩;rw[Ag,LJ,t51];simp only[F5,CT,hk,An,AJ,AZ] at f d c;simp only[abS,Nat.reduceLeDiff,↓reduceIte,Cl,CT,ZI,d.Af,hk,(Az:¬(3:Int)=5),(Az:¬(3:Int)=4),(Az:¬(3:Int)=6),(Az:¬(3:Int)=2),f.Af,c,yF,r2.Af]
def aCb:lk EI aXM=some (qf 143):=by simp only[EI,lk];rfl
def RQ(w:PB h bi b F)(g:Gz b (n+1000) o a)(ht:t.Sm)(hv:BF t.As av)(hs:t.st [aXM]):Gn h F 51 [Pt bi 0,.agg (CT t av)] ff bi (b.I3 t):=by
 have hn:t.name=aXM:=Bv.1 hs.2;have e:b.I3 t=b.Jq t:=by unfold BS.I3 BS.Jq;rw[Ae hn]
 rw[e];exact O6 w hs.1 (by rw[hn];exact aCb) Az λh1 w1=>(aLL w1 g ht hv).Kj
def xC(w:PB h bi b F)(g:Gz b (n+8*(4*(o+a+8)+10)+8*a+2000) o a)(ht:t.Sm)(hv:BF t.As av)(hk:t.k=2):Gn h F 51 [Pt bi 0,.agg (CT t av)] (.bool (b.opens t).2) bi (b.opens t).1:=by
 have ge:∀{m},m<=n+8*(4*(o+a+8)+10)+8*a+2000->Gz b m o a:=λh=>g.dn h;unfold BS.opens;by_cases c:t.name∈Ge;.rw[Ae c];exact aLS w hk (by simp only[EI,lk,Bv,↓reduceIte,c]) Az λh1 w1=>aLO w1 (n:=n) (ge Ac) ht hv λhx=>absurd (Bv.1 hx.2▸c:aXM∈Ge) Ed
 rw[Aa c];by_cases d:t.name∈lA;.rw[Ae d];exact O6 w hk (by simp only[EI,lk,↓reduceIte,c,d]) Az λh1 w1=>(ŉ w1 (n:=n) (ge Ac) ht hv).Kj
 rw[Aa d];by_cases e:t.name∈Dg;.rw[Ae e];exact O6 w hk (by simp only[EI,lk,↓reduceIte,c,d,e]) Az λh1 w1=>(aQE w1 (n:=n) (ge Ac) ht hv).Kj
 rw[Aa e];by_cases f:t.name∈aB0;.rw[Ae f];exact O6 w hk (by simp only[EI,lk,↓reduceIte,c,d,e,f]) Az λh1 w1=>(aQF w1 (n:=n) (ge Ac) ht hv).Kj
 rw[Aa f];by_cases i:t.name∈ve;.rw[Ae i];exact O6 w hk (by simp only[EI,lk,↓reduceIte,c,d,e,f,i]) Az λh1 w1=>(aHB w1 (n:=n) (ge Ac) ht hv).Kj
 rw[Aa i];by_cases j:t.name∈WJ;.rw[Ae j];exact O6 w hk (by simp only[EI,lk,↓reduceIte,c,d,e,f,i,j]) Az λh1 w1=>(aQI w1 (n:=n) (ge Ac) ht hv).Kj
 rw[Aa j];by_cases l:t.name∈lB;.rw[Ae l];exact O6 w hk (by simp only[EI,lk,↓reduceIte,c,d,e,f,i,j,l]) Az λh1 w1=>aLK w1 (n:=n) (ge Ac) ht hv
 rw[Aa l];by_cases p:t.name∈ls;.rw[Ae p];exact aLS w hk (by simp only[EI,lk,↓reduceIte,c,d,e,f,i,j,l,p]) Az λh1 w1=>⟨h1,F,aQZ _,w1.pb,.refl⟩
 rw[Aa p];by_cases q:t.name∈qS;.rw[Ae q];exact O6 w hk (by simp only[EI,lk,↓reduceIte,c,d,e,f,i,j,l,p,q]) Az λh1 w1=>(aQO w1 (n:=n) (ge Ac) ht hv).Kj
 rw[Aa q];by_cases r:t.name∈ly;.rw[Ae r];exact O6 w hk (by simp only[EI,lk,↓reduceIte,c,d,e,f,i,j,l,p,q,r]) Az λh1 w1=>(aQR w1 (n:=n) (ge Ac) ht hv).Kj
 rw[Aa r];by_cases Pg:t.name∈aB1;.rw[Ae Pg];exact O6 w hk (by simp only[EI,lk,↓reduceIte,c,d,e,f,i,j,l,p,q,r,Pg]) Az λh1 w1=>(aQS w1 (n:=n) (ge Ac) ht hv).Kj
 rw[Aa Pg];by_cases UD:t.name∈lz;.rw[Ae UD];exact O6 w hk (by simp only[EI,lk,↓reduceIte,c,d,e,f,i,j,l,p,q,r,Pg,UD]) Az λh1 w1=>(aQL w1 (n:=n) (ge Ac) ht hv).Kj
 rw[Aa UD];by_cases Wa:t.name∈aB2;.rw[Ae Wa];exact O6 w hk (by simp only[EI,lk,↓reduceIte,c,d,e,f,i,j,l,p,q,r,Pg,UD,Wa]) Az λh1 w1=>(aQQ w1 (n:=n) (ge Ac) ht hv).Kj
 rw[Aa Wa];by_cases eX:t.name∈Q7;.rw[Ae eX];exact O6 w hk (by simp only[EI,lk,↓reduceIte,c,d,e,f,i,j,l,p,q,r,Pg,UD,Wa,eX]) Az λh1 w1=>(aLL w1 (n:=n) (ge Ac) ht hv).Kj
 rw[Aa eX];by_cases ZH:t.name=aXV;.rw[Ae ZH];exact O6 w hk (by simp only[EI,lk,Bv,↓reduceIte,c,d,e,f,i,j,l,p,q,r,Pg,UD,Wa,eX,BI ZH]) Az λh1 w1=>(aQ2 w1 (n:=n) (ge Ac) ht hv).Kj
 rw[Aa ZH];by_cases rF:t.name=aYd;.rw[Ae rF];exact O6 w hk (by simp only[EI,lk,Bv,↓reduceIte,c,d,e,f,i,j,l,p,q,r,Pg,UD,Wa,eX,ZH,BI rF]) Az λh1 w1=>(aQG w1 (n:=n) (ge Ac) ht hv).Kj
 rw[Aa rF];by_cases mw:t.name=aXQ;.rw[Ae mw];exact O6 w hk (by simp only[EI,lk,Bv,↓reduceIte,c,d,e,f,i,j,l,p,q,r,Pg,UD,Wa,eX,ZH,rF,BI mw]) Az λh1 w1=>(aQH w1 (n:=n) (ge Ac) ht hv).Kj
 rw[Aa mw];by_cases vp:t.name=[97];.rw[Ae vp];exact O6 w hk (by simp only[EI,lk,Bv,↓reduceIte,c,d,e,f,i,j,l,p,q,r,Pg,UD,Wa,eX,ZH,rF,mw,BI vp]) Az λh1 w1=>(aQM w1 (n:=n) (ge Ac) ht hv).Kj
 rw[Aa vp];by_cases mX:t.name=aYc;.rw[Ae mX];exact O6 w hk (by simp only[EI,lk,Bv,↓reduceIte,c,d,e,f,i,j,l,p,q,r,Pg,UD,Wa,eX,ZH,rF,mw,vp,BI mX]) Az λh1 w1=>(aQJ w1 (n:=n) (ge Ac) ht hv).Kj
 rw[Aa mX];by_cases ō:t.name=aX4;.rw[Ae ō];exact O6 w hk (by simp only[EI,lk,Bv,↓reduceIte,c,d,e,f,i,j,l,p,q,r,Pg,UD,Wa,eX,ZH,rF,mw,vp,mX,BI ō]) Az λh1 w1=>(aQK w1 (n:=n) (ge Ac) ht hv).Kj
 rw[Aa ō];by_cases ya:t.name=aYp;.rw[Ae ya];exact O6 w hk (by simp only[EI,lk,Bv,↓reduceIte,c,d,e,f,i,j,l,p,q,r,Pg,UD,Wa,eX,ZH,rF,mw,vp,mX,ō,BI ya]) Az λh1 w1=>(aQP w1 (n:=n) (ge Ac) ht hv).Kj
 rw[Aa ya];exact aQ5 w (n:=n) (ge Ac) ht hv hk (by simp only[EI,lk,Bv,↓reduceIte,c,d,e,f,i,j,l,p,q,r,Pg,UD,Wa,eX,ZH,rF,mw,vp,mX,ō,ya])
def rG(w:PB h bi b F)(g:Gz b (n+8*(4*(o+a+8)+10)+8*a+2000) o a)(ht:t.Sm)(hv:BF t.As av)(hk:t.k=3):Gn h F 51 [Pt bi 0,.agg (CT t av)] (.bool (b.MJ t).2) bi (b.MJ t).1:=by
 have ge:∀{m},m<=n+8*(4*(o+a+8)+10)+8*a+2000->Gz b m o a:=λh=>g.dn h;unfold BS.MJ;by_cases u:t.name=AW;.rw[Ae u];exact aHM w hk (by rw[u];simp only[Qm,lk];rfl) Az λh1 w1=>aLO w1 (n:=n) (ge Ac) ht hv λhx=>by have:=hx.1;omega
 rw[Aa u];by_cases s:t.name∈Q7
 .rw[Ae s];have q:t.name=aXM\/t.name=aXS:=by simpa[Q7] using s
  rcases q with q|q
  .exact aHM w hk (by rw[q];simp only[Qm,lk];rfl) Az λh1 w1=>aLN w1 (n:=n) (ge Ac)
  .exact aHM w hk (by rw[q];simp only[Qm,lk];rfl) Az λh1 w1=>aLN w1 (n:=n) (ge Ac)
 rw[Aa s];have d:¬t.name=aXM/\¬t.name=aXS:=by simpa[Q7] using s
 have c:¬t.name=aXP:=u;by_cases e:t.name∈Q8;.rw[Ae e];exact xB w hk (by simp only[Qm,lk,Bv,↓reduceIte,c,d.1,d.2,e]) Az λh1 w1=>(aLM w1 (n:=n) (ge Ac)).Kj
 rw[Aa e];by_cases f:t.name∈Ķ;.rw[Ae f];exact xB w hk (by simp only[Qm,lk,Bv,↓reduceIte,c,d.1,d.2,e,f]) Az λh1 w1=>(aQY w1 (n:=n) (ge Ac)).Kj
 rw[Aa f];by_cases i:t.name∈Dg;.rw[Ae i];exact xB w hk (by simp only[Qm,lk,Bv,↓reduceIte,c,d.1,d.2,e,f,i]) Az λh1 w1=>(aQW w1 (n:=n) (ge Ac)).Kj
 rw[Aa i];by_cases j:t.name∈WJ;.rw[Ae j];exact xB w hk (by simp only[Qm,lk,Bv,↓reduceIte,c,d.1,d.2,e,f,i,j]) Az λh1 w1=>(aQV w1 (n:=n) (ge Ac)).Kj
 rw[Aa j];by_cases l:t.name∈Zt;.rw[Ae l];exact xB w hk (by simp only[Qm,lk,Bv,↓reduceIte,c,d.1,d.2,e,f,i,j,l]) Az λh1 w1=>(aQ0 w1 (n:=n) (ge Ac)).Kj
 rw[Aa l];by_cases p:t.name=aYd;.rw[Ae p];exact xB w hk (by simp only[Qm,lk,Bv,↓reduceIte,c,d.1,d.2,e,f,i,j,l,BI p]) Az λh1 w1=>(aQX w1 (n:=n) (ge Ac)).Kj
 rw[Aa p];by_cases r:t.name=[98,114];.rw[Ae r];exact xB w hk (by simp only[Qm,lk,Bv,↓reduceIte,c,d.1,d.2,e,f,i,j,l,p,BI r]) Az λh1 w1=>(aQ1 w1 (n:=n) (ge Ac))
 rw[Aa r];exact aQ6 w (n:=n) (ge Ac) hk (by simp only[Qm,lk,Bv,↓reduceIte,c,d.1,d.2,e,f,i,j,l,p,r])
def aHN(w:PB h bi b F)(g:Gz b n o a):Gn h F 91 [Pt bi 0] (.tuple []) bi b.aHr:=by
 have r:=g.rm.tm;obtain⟨l,j,c,tt,G,w,hc,rfl⟩:=w;have lt:=Bx.GN w.t;have l6:=w.l6;by_cases h0:b.tm=[]
 .have e:b.aHr=b:=by
   unfold BS.aHr;have:b.tm.dropLast=b.tm:=by rw[h0];rfl
   rw[this]
  refine⟨h,_,?_,⟨l,j,c,tt,G,by rw[e];exact w,by rw[e];exact hc,rfl⟩,.refl⟩;have i:AE (.len false) [tt]=some (I 0):=by rw[lt,h0];rfl
  rw[Ag,v8,t91];simp only[abS,l6,i,dJ]
 .have hpos:=CB.2 h0;obtain⟨u,s,f⟩:=Bx.TS w.t (k:= .i64) (n:=b.tm.length-1) Ac;rw[<-WM] at f;obtain⟨p,q,d⟩:=aHd f EE h;have m:=w.aHe d;refine⟨_,_,?_,⟨l,j,c,p,G,m,hc,rfl⟩,Cz⟩;rw[Ag,v8,t91];simp only[abS,l6,lt,(Ac:(0:Int)<(b.tm.length:Int)),Ol hpos (Ac:b.tm.length<9223372036854775807),s,q.Af,w.st (k:=6) (v0:=tt) rfl (Bx.cells d),dJ]
def fA(w:PB h bi b F)(g:Gz b (n+4*a+5) o a)(ht:t.Sm)(hk:t.k=5):Gn h F 51 [Pt bi 0,.agg (CT t av)] ff bi (b.HL t):=by have w0:=SW.new w t av;obtain⟨h2,f,r2,e,d⟩:=(aQU w0 g ht).Kj (si:=h.length);have c:=KJ w t av;rw[Ak (bI hk Az)] at c;refine⟨h2,f,?_,e,K0 (Ad _) .refl d⟩;rw[Ag,LJ,t51];simp only[F5,CT,hk] at r2 c;simp only[abS,Nat.reduceLeDiff,↓reduceIte,Cl,CT,c.Af,hk,r2.Af]
def Uq(w:PB h bi b F)(g:Gz b (n+1) o a)(ht:t.Sm)(hk:t.k=4):Gn h F 51 [Pt bi 0,.agg (CT t av)] ff bi (b.DD t.data 0):=by have w0:=SW.new w t av;obtain⟨h2,f,r2,e,d⟩:=M4 w0.pb g (Bw ht.data Az) 0;have c:=KJ w t av;rw[Ak (bI hk Az)] at c;refine⟨h2,f,?_,e,K0 (id:=h.length+1) AB .refl d.rB⟩;rw[Ag,LJ,t51];simp only[F5,CT,hk] at r2 c;simp only[abS,Nat.reduceLeDiff,↓reduceIte,Cl,CT,c.Af,hk,r2.Af,(Az:¬(4:Int)=5)]
def rH(w:PB h bi b F)(hk:t.k=1):Gn h F 51 [Pt bi 0,.agg (CT t av)] ff bi b:=by have w0:=SW.new w t av;have c:=KJ w t av;rw[Ak (bI hk Az)] at c;refine⟨_,F,?_,w0.pb,K0 (id:=h.length+1) (x:=F5 bi t av) AB .refl (FC.refl.rB)⟩;rw[Ag,LJ,t51];simp only[F5,CT,hk] at c⊢;simp only[abS,Nat.reduceLeDiff,↓reduceIte,Cl,CT,c.Af,hk,(Az:¬(1:Int)=5),(Az:¬(1:Int)=4),(Az:¬(1:Int)=6),(Az:¬(1:Int)=2),(Az:¬(1:Int)=3)]
def Ő(w:PB h bi b F)(hk:¬t.ok):Gn h F 51 [Pt bi 0,.agg (CT t av)] ff bi b:=by have c:=KJ w t av;rw[Ap hk] at c;refine⟨_,F,?_,w,.refl⟩;rw[Ag,LJ,t51];simp only[CT] at c;simp only[abS,Nat.reduceLeDiff,↓reduceIte,Cl,CT,c.Af]
end
section
variable{h h':Ai}{bi:Nat}{b b':BS}{F:Nat->Prop}{n o a:Nat}{t:Dr}{av:Ab}
def aCc(hs:t.st Ge):¬t.st [aXM]:=λhx=>absurd (Bv.1 hx.2▸hs.2:aXM∈Ge) Ed
def aLT(w:PB h bi b F)(g:Gz b (n+4*a+1005) o a)(ht:t.Sm)(hv:BF t.As av)(hf:∀m,t.k=2->Gn h F 87 [Pt bi 0,I m] tt bi (b.E9 m).1):Gn h F 53 [Pt bi 0,.agg (CT t av)] (.bool (b.D0 t).2) bi (b.D0 t).1:=by
 have Cj:=w.Cj;unfold BS.D0 BS.MI;by_cases E:¬t.ok;.rw[Ae E];have f:=KJ w t av;rw[Ap E] at f;refine⟨_,_,?_,w,.refl⟩;rw[Ag,Kq,t53];simp only[abS,↓reduceIte,f.Af]
 rw[Aa E];have f:=KJ w t av;rw[Ak (EZ.1 E)] at f;by_cases i:t.k=5;.rw[Ae i];obtain⟨h1,s,d,w1,c⟩:=fA (n:=n) (av:=av) w (g.dn Ac) ht i;refine⟨_,_,?_,w1,c⟩;rw[Ag,Kq,t53];simp only[abS,↓reduceIte,f.Af,BI i,d.Af]
 rw[Aa i];by_cases j:t.k=4;.rw[Ae j];obtain⟨h1,s,d,w1,c⟩:=Uq (n:=n) (av:=av) w (g.dn Ac) ht j;refine⟨_,_,?_,w1,c⟩;rw[Ag,Kq,t53];simp only[abS,↓reduceIte,f.Af,i,BI j,d.Af]
 rw[Aa j];by_cases l:t.k=1;.rw[Ae l];obtain⟨h1,s,d,w1,c⟩:=rH (av:=av) w l;refine⟨_,_,?_,w1,c⟩;rw[Ag,Kq,t53];simp only[abS,↓reduceIte,f.Af,i,j,BI l,d.Af]
 rw[Aa l];by_cases D:t.st Ge;.rw[Ae D];have p:=GB RP t av h;rw[Ak D] at p;obtain⟨h1,s,d,w1,c⟩:=lK (n:=n) w (g.dn Ac) ht hv (λe=>absurd e (aCc D));refine⟨_,_,?_,w1,c⟩;rw[Ag,Kq,t53];simp only[abS,↓reduceIte,f.Af,p.Af,i,j,l,d.Af]
 rw[Aa D];have p:=GB RP t av h;rw[Ap D] at p;by_cases C:t.en [AW];.rw[Ae C];have q:=bG Hu t av h;rw[Ak C] at q;obtain⟨h1,s,d,w1,c⟩:=lK (n:=n) w (g.dn Ac) ht hv (λe=>by have h1:=e.1;have h2:=C.1;omega);refine⟨_,_,?_,w1,c⟩;rw[Ag,Kq,t53];simp only[abS,↓reduceIte,f.Af,p.Af,q.Af,i,j,l,d.Af]
 rw[Aa C];have q:=bG Hu t av h;rw[Ap C] at q;by_cases B:t.st sT1;.rw[Ae B];have r:=GB ņ t av h;rw[Ak B] at r;obtain⟨h1,s,d,w1,c⟩:=hf 9 B.1;refine⟨_,_,?_,w1,c⟩;rw[Ag,Kq,t53];simp only[abS,↓reduceIte,f.Af,p.Af,q.Af,r.Af,i,j,l,d.Af,BS.E9,BS.again]
 rw[Aa B];have r:=GB ņ t av h;rw[Ap B] at r;by_cases A:t.st [aZe];.rw[Ae A];have u:=GB mo t av h;rw[Ak A] at u;obtain⟨h1,s,d,w1,c⟩:=hf 12 A.1;refine⟨_,_,?_,w1,c⟩;rw[Ag,Kq,t53];simp only[abS,↓reduceIte,f.Af,p.Af,q.Af,r.Af,u.Af,i,j,l,d.Af,BS.E9,BS.again]
 rw[Aa A];have u:=GB mo t av h;rw[Ap A] at u;by_cases z:t.st [[116,114]];.rw[Ae z];have v:=GB ň t av h;rw[Ak z] at v;obtain⟨h1,s,d,w1,c⟩:=hf 13 z.1;refine⟨_,_,?_,w1,c⟩;rw[Ag,Kq,t53];simp only[abS,↓reduceIte,f.Af,p.Af,q.Af,r.Af,u.Af,v.Af,i,j,l,d.Af,BS.E9,BS.again]
 rw[Aa z];have v:=GB ň t av h;rw[Ap z] at v;by_cases y:t.st sTd;.rw[Ae y];have x:=GB Ň t av h;rw[Ak y] at x;obtain⟨h1,s,d,w1,c⟩:=hf 14 y.1;refine⟨_,_,?_,w1,c⟩;rw[Ag,Kq,t53];simp only[abS,↓reduceIte,f.Af,p.Af,q.Af,r.Af,u.Af,v.Af,x.Af,i,j,l,d.Af,BS.E9,BS.again]
 rw[Aa y];have x:=GB Ň t av h;rw[Ap y] at x;by_cases Pg:t.k=2;.rw[Ae Pg];obtain⟨h1,s,d,w1,c⟩:=hf 7 Pg;refine⟨_,_,?_,w1,c⟩;rw[Ag,Kq,t53];simp only[abS,↓reduceIte,f.Af,p.Af,q.Af,r.Af,u.Af,v.Af,x.Af,i,j,l,BI Pg,d.Af,BS.E9,BS.again]
 rw[Aa Pg];by_cases UD:t.k=3;.rw[Ae UD];refine⟨_,_,?_,w,.refl⟩;rw[Ag,Kq,t53];simp only[abS,↓reduceIte,f.Af,p.Af,q.Af,r.Af,u.Af,v.Af,x.Af,i,j,l,Pg,BI UD]
 rw[Aa UD];by_cases Wa:b.Ox;.rw[Ae Wa];have vn:=S2 w g;rw[Ak Wa] at vn;obtain⟨_,h1,s,d,w1,c⟩:=lG w g (Dl (ws:=[AW])) Az;have g1:Gz {b with Au:=D6 Dm (AH [AW]) b.Au} (n+4*a+1005) o a:=g.KH Dh;obtain⟨_,h2,S,r2,M,J⟩:=mg w1 g1;have g2:Gz {b with Au:=D6 Dm (AH [AW]) b.Au,A3:=FF b.A3} (n+4*a+1005) o a:=g.sub (lt:=b.tm) Dh (Ch _ _) (Ad _);have g3:Gz {b with Au:=D6 Dm (AH [AW]) b.Au,A3:=FF b.A3,tm:=b.tm.dropLast} (n+4*a+1005) o a:=g.sub Dh (Ch _ _) AB;obtain⟨h3,R,O,L,H⟩:=aHN M g2;obtain⟨P,Q,N,K,G⟩:=aB7 L g3;refine⟨_,_,?_,K,((c.trans J).trans H).trans G⟩;rw[Ag,Kq,t53];simp only[abS,↓reduceIte,f.Af,p.Af,q.Af,r.Af,u.Af,v.Af,x.Af,vn.Af,i,j,l,Pg,UD,Į,d.Af,r2.Af,O.Af,N.Af]
 rw[Aa Wa];have vn:=S2 w g;rw[Ap Wa] at vn;obtain⟨h1,s,d,w1,c⟩:=Ľ w;refine⟨_,_,?_,w1,c⟩;rw[Ag,Kq,t53];simp only[abS,↓reduceIte,f.Af,p.Af,q.Af,r.Af,u.Af,v.Af,x.Af,vn.Af,i,j,l,Pg,UD,d.Af]
def aQ7(w:PB h bi b F)(g:Gz b (n+8*(4*(o+a+8)+10)+8*a+2000) o a)(ht:t.Sm)(hv:BF t.As av):Gn h F 51 [Pt bi 0,.agg (CT t av)] (.bool (b.H7 t).2) bi (b.H7 t).1:=by
 have ge:∀{m},m<=n+8*(4*(o+a+8)+10)+8*a+2000->Gz b m o a:=λh=>g.dn h;unfold BS.H7;by_cases j:¬t.ok;.rw[Ae j];exact Ő w j
 rw[Aa j];by_cases r:t.k=5;.rw[Ae r];exact fA (n:=n) w (ge Ac) ht r
 rw[Aa r];by_cases q:t.k=4;.rw[Ae q];exact Uq (n:=n) w (ge Ac) ht q
 rw[Aa q];by_cases d:t.k=6
 .rw[Ae d];obtain⟨x,l6,s⟩:=w.ltm;have lt:=Bx.GN s;have w0:=SW.new w t av;have ok:=KJ w t av;rw[Ak (bI d Az)] at ok;obtain⟨v,c,aQ8⟩:=w0.pb.ltm;have i:=Bx.GN aQ8;by_cases e:0<b.tm.length;.rw[Ae e];obtain⟨h1,u,f,w1,l⟩:=aLT (n:=n) (av:=av) w0.pb (ge Ac) ht hv (λm hm=>Ac);refine⟨h1,u,?_,w1,K0 (id:=h.length+1) AB .refl l.rB⟩;rw[Ag,LJ,t51];simp only[F5,CT,d] at f ok c;simp only[abS,Nat.reduceLeDiff,↓reduceIte,Cl,CT,ok.Af,d,(Az:¬(6:Int)=5),(Az:¬(6:Int)=4),c,i,(Ac:(0:Int)<(b.tm.length:Int)),f.Af]
  .rw[Aa e];obtain⟨h1,u,f,w1,l⟩:=Ľ w0.pb;refine⟨h1,u,?_,w1,K0 (id:=h.length+1) AB .refl l.rB⟩;rw[Ag,LJ,t51];simp only[F5,CT,d] at f ok c;simp only[abS,Nat.reduceLeDiff,↓reduceIte,Cl,CT,ok.Af,d,(Az:¬(6:Int)=5),(Az:¬(6:Int)=4),c,i,(Ac:¬(0:Int)<(b.tm.length:Int)),f.Af]
 rw[Aa d];by_cases e:t.k=2;.rw[Ae e];exact xC (n:=n) w g ht hv e
 rw[Aa e];by_cases p:t.k=3;.rw[Ae p];exact rG (n:=n) w g ht hv p
 .rw[Aa p];exact rH w (by have:=EZ.1 j;unfold Dr.ok at this;omega)
end
section
variable{h h':Ai}{ar n x:Int}{ps:List PN}{A:Ar}
def aLU{a n:Nat}{m:Option Nat}(w:PA h a n m ps A)(d:NN A)(hd:A.has x/\(A.nd x).kind=1)(q:Bool):
  ∃h' PV,CD cx 63 [Pt a 0,I x,.bool q] h (I 0) h'/\PA h' a n m PV (A.set x {A.nd x with DX:=q})/\FC h (λi=>i∈Gm a n m ps) h' (λi=>i∈Gm a n m PV):=by
 have hp:=(w.pn hd.1).2.1;obtain⟨h2,e,c,g,f,l2⟩:=w.wr hd.1 (k:=10) Az (v:= .bool q) rfl (p:=⟨{A.nd x with DX:=q},(pN ps x).kv,(pN ps x).av,by rw[<-hp];exact(pN ps x).ok⟩) (by simp only[PN.row];rw[hp];rfl) rfl rfl;refine⟨h2,_,?_,c,w.kq c g f l2⟩;rw[Ag,ð,t63];simp only[abS,(p9 (x:=x) w d).Af,Ae hd.1,Ae hd.2,CP,CG,(Jo w d hd.1).Af,e]
def lN(nm Lg sys:Ah)(d:Int):PN:=⟨{kind:=3,BM:=d,name:=nm,Lg:=Lg,sys:=sys},.slnil,.slnil,rfl⟩
def aLV{a n:Nat}{m:Option Nat}{nm Lg sys:Ah}(w:PA h a n m ps A)(e:NN A)(hb:A.len+1<=1000000000)(hd:A.has x/\(A.nd x).kind=1):
  ∃h',CD cx 65 [Pt a 0,I x,.str nm,.str Lg,.str sys] h (.tuple [I (A.len+1),I 0]) h'/\PA h' a h.length m (ps++[lN nm Lg sys x]) (A.add (lN nm Lg sys x).x)/\(∀i,i<h.length->i≠a->i≠n->h'[i]?=h[i]?)/\h'.length=h.length+1:=by
 have sE:=w.len;obtain⟨h1,c,w1,d,l1⟩:=Ĝ w Ac (lN nm Lg sys x) rfl rfl;have r2:CD cx 108 [Pt a 0,I x,.agg (lN nm Lg sys 0).row] h (.tuple [I (A.len+1),I 0]) h1:=by rw[PN.row] at c;rw[Ag,iW,aBa,PN.row];simp only[abS,(p9 (x:=x) w e).Af,Ae hd.1,Ae hd.2,CP,CG,lN] at c⊢;simp only[Cy,c.Af]
 refine⟨h1,?_,w1,d,l1⟩;simp only[PN.row,lN] at r2;rw[Ag,ñ,t65];simp only[abS,Nat.reduceLeDiff,↓reduceIte,Cl,r2.Af]
end
section
variable{h h':Ai}{bi:Nat}{b b':BS}{F:Nat->Prop}{n o a:Nat}{t:Dr}{av:Ab}
def ő(w:PB h bi b F)(g:Gz b n o a):∃ar,Bp h none (Pt bi 0)=some (Pt ar 0)/\Gn h F 63 [Pt ar 0,I b.BM,tt] (I 0) bi b.NP:=by
 obtain⟨ar,i,c,d,G,w,hc,rfl⟩:=w;obtain⟨h',j,r,w',x'⟩:=w.step (A':=b.NP.a) (R:=λh'=>CD cx 63 [Pt ar 0,I b.BM,tt] h (I 0) h') λn m ps f=>by obtain⟨h1,bB,r,w1,e⟩:=aLU f g.rm.WA g.ok.BM true;exact⟨h1,n,m,bB,r,w1,e⟩
 exact⟨ar,w.l0,h',_,r,⟨ar,i,c,d,j,w',hc,rfl⟩,x'⟩
def aQ9(w:PB h bi b F)(g:Gz b (n+1) o a)(nm Lg sys:Ah):∃ar,Bp h none (Pt bi 0)=some (Pt ar 0)/\Gn h F 65 [Pt ar 0,I b.BM,.str nm,.str Lg,.str sys] (.tuple [I (b.a.len+1),I 0]) bi {b with a:=b.a.add (lN nm Lg sys b.BM).x}:=by
 obtain⟨ar,f,c,d,G,w,hc,rfl⟩:=w;obtain⟨h',j,r,w',x'⟩:=w.step (A':=b.a.add (lN nm Lg sys b.BM).x) (R:=λh'=>CD cx 65 [Pt ar 0,I b.BM,.str nm,.str Lg,.str sys] h (.tuple [I (b.a.len+1),I 0]) h') λn m ps e=>by obtain⟨h1,r,w1,i,l1⟩:=aLV (nm:=nm) (Lg:=Lg) (sys:=sys) e g.rm.WA (by have:=g.rm.n;unfold Ar.len;omega) g.ok.BM;exact⟨h1,_,_,_,r,w1,e.RM rfl i l1⟩
 exact⟨ar,w.l0,h',_,r,⟨ar,f,c,d,j,w',hc,rfl⟩,x'⟩
def aHO(w:PB h bi b F)(g:Gz b n o a){e:Int}(ok:Eo b.a e)(p x k:Int):∃f d,Bp h none (Pt bi 0)=some (Pt f 0)/\Gn h F 66 [Pt f 0,I p,I x,I k] (I d) bi {b with a:=b.a.F9 p x k}:=by
 obtain⟨f,q,c,i,G,w,hc,rfl⟩:=w;obtain⟨h',s,⟨d,r⟩,w',x'⟩:=w.step (A':=b.a.F9 p x k) (R:=λh'=>∃d,CD cx 66 [Pt f 0,I p,I x,I k] h (I d) h') λn m ps l=>by obtain⟨d,h1,bB,r,w1,j⟩:=aDs (p:=p) (x:=x) (b:=k) l g.rm.WA ok;exact⟨h1,n,m,bB,⟨d,r⟩,w1,j⟩
 exact⟨f,d,w.l0,h',_,r,⟨f,q,c,i,s,w',hc,rfl⟩,x'⟩
def aRa{qk:Dr->Bool}(w:PB h bi b F)(g:Gz b (n+5) o a)(ht:t.Sm)(hv:BF t.As av)(hq:∀h,CD cx 67 [.agg (CT t av)] h (.bool (qk t)) h):Gn h F 45 [Pt bi 0,.agg (CT t av)] (.bool (b.Gq qk t).2) bi (b.Gq qk t).1:=by
 have Cj:=w.Cj;unfold BS.Gq;by_cases A:¬t.ok;.rw[Ae A];have c:=KJ w t av;rw[Ap A] at c;refine⟨_,_,?_,w,.refl⟩;rw[Ag,SO,t45];simp only[abS,↓reduceIte,c.Af]
 rw[Aa A];have c:=KJ w t av;rw[Ak (EZ.1 A)] at c;by_cases z:t.E8;.rw[Ae z];have d:=Um t av h;rw[Ak z] at d;refine⟨_,_,?_,w,.refl⟩;rw[Ag,SO,t45];simp only[abS,↓reduceIte,c.Af,d.Af]
 rw[Aa z];have d:=Um t av h;rw[Ap z] at d;by_cases v:t.k=4;.rw[Ae v];obtain⟨h1,L,j,w1,i⟩:=M4 (s:=t.data) w (g.dn (n':=n+1) Ac) (by have:=ht.data;omega) b.BM;refine⟨_,_,?_,w1,i⟩;rw[Ag,SO,t45];simp only[abS,↓reduceIte,c.Af,d.Af,BI v,Cj,j.Af]
 rw[Aa v];by_cases f:t.k=1;rotate_left;.rw[Ae f];obtain⟨Q,u,h1,L,j,w1,i⟩:=ő w g;obtain⟨h2,K,r2,r,q⟩:=wW w1 2;refine⟨_,_,?_,r,i.trans q⟩;rw[Ag,SO,t45];simp only[abS,↓reduceIte,c.Af,d.Af,v,CP,eq_false f,AP,u,Cj,j.Af,r2.Af,BS.again]
 rw[Aa (by simp[f])];have hd:=g.ok.BM;have hx:sJ {kind:=3,BM:=b.BM,name:=t.name,Lg:=t.Lg,sys:=t.sys}:=by constructor<;>simp[Dx,GP,dQ]
 have RO:=PI g.ok.ok hx (.inr ⟨AB,hd⟩) rfl rfl rfl rfl (λh=>absurd h.1 (Az:¬(3:Int)=4));obtain⟨Q,u,h1,L,j,w1,i⟩:=aQ9 w (g.dn (n':=n+1) Ac) t.name t.Lg t.sys;have g1:Gz {b with a:=b.a.add (lN t.name t.Lg t.sys b.BM).x} n o a:=⟨g.ok.I5 RO PK,(g.dn (n':=n+1) Ac).rm.GZ (Mg (y:={kind:=3,BM:=b.BM,name:=t.name,Lg:=t.Lg,sys:=t.sys}) AB AB),g.Au,g.A3⟩;obtain⟨P,R,p,h2,K,r2,r,q⟩:=aHO w1 g1 (e:=0) RO b.BM (b.a.len+1) 0;have l1:=w1.Cj;have l2:=r.Cj;have g2:Gz (b.Nw t) n o a:=(g.dn (n':=n+1) Ac).Nw;have m:PB h2 bi (b.Nw t) K:=r;have l:=hq h2;dsimp only;cases J:qk t with
 |true=>rw[J] at l;rw[Ae rfl];obtain⟨H,G,h3,S,O,N,M⟩:=ő m g2;have E:CD cx 63 [Pt H 0,I b.BM,tt] h2 (I 0) h3:=O;obtain⟨D,C,B⟩:=GU N 2;refine⟨_,_,?_,C,((i.trans q).trans M).trans B⟩;rw[Ag,SO,t45];simp only[CT,f] at c d l;simp only[abS,↓reduceIte,c.Af,d.Af,(Az:¬(1:Int)=4),f,CT,CP,AN,u,Cj,j.Af,p,l1,r2.Af,l.Af,G,l2,E.Af,D]
 |false=>rw[J] at l;rw[Aa AB];obtain⟨D,C,B⟩:=GU m 2;refine⟨_,_,?_,C,(i.trans q).trans B⟩;rw[Ag,SO,t45];simp only[CT,f] at c d l;simp only[abS,↓reduceIte,c.Af,d.Af,(Az:¬(1:Int)=4),f,CT,CP,AN,u,Cj,j.Af,p,l1,r2.Af,l.Af,D]
def K4{es:List (Ab×Ab)}{k:Int}{v:Ab}(e:Jb k es 0=some none):Ey .UE (h++[.map es]) [.map (some h.length),I k,v]=some (h++[.map (es++[(I k,v)])],tt):=by simp[Ey,yK,e]
def aC(k:Nat):Ab:= .func (.func k) [] []
def K5:List (Ab×Ab):=[(I 1,aC 45),(I 2,aC 46),(I 3,aC 47),(I 4,aC 48),(I 5,aC 49),(I 6,aC 50),(I 7,aC 51),(I 8,aC 52),(I 18,aC 53)]
def aLW(h:Ai):CD cx 40 [] h (.map (some h.length)) (h++[.map K5]):=by have m:=K4 (h:=h) (es:=K5.take 0) (k:=1) (v:=aC 45) rfl;have l:=K4 (h:=h) (es:=K5.take 1) (k:=2) (v:=aC 46) rfl;have j:=K4 (h:=h) (es:=K5.take 2) (k:=3) (v:=aC 47) rfl;have i:=K4 (h:=h) (es:=K5.take 3) (k:=4) (v:=aC 48) rfl;have g:=K4 (h:=h) (es:=K5.take 4) (k:=5) (v:=aC 49) rfl;have f:=K4 (h:=h) (es:=K5.take 5) (k:=6) (v:=aC 50) rfl;have e:=K4 (h:=h) (es:=K5.take 6) (k:=7) (v:=aC 51) rfl;have d:=K4 (h:=h) (es:=K5.take 7) (k:=8) (v:=aC 52) rfl;have c:=K4 (h:=h) (es:=K5.take 8) (k:=18) (v:=aC 53) rfl;simp only[K5,aC,Rj,LN,Bq,BD] at m l j i g f e d c;rw[Ag,î,t40];simp only[Cy,m,l,j,i,g,f,e,d,c,K5,aC]
def rI{es:List (Ab×Ab)}{k:Int}{r:Option (Nat×Ab)}(e:Jb k es 0=some r):Ey (.ov .nilFunc true) (h++[.map es]) [.map (some h.length),I k]=some (h++[.map es],UH .nilFunc true r):=by simp[Ey,nC,e]
def P4(w:PB h bi b F)(hk:t.ok){i k:Nat}{r:Bool}(e:Jb b.mode K5 0=some (some (i,aC k)))(f:k<=99999)(d:Gn (h++[.map K5]) F k [Pt bi 0,.agg (CT t av)] (.bool r) bi b'):Gn h F 33 [Pt bi 0,.agg (CT t av)] (.bool r) bi b':=by obtain⟨h2,p,r2,l,j⟩:=d;have Cj:=w.Cj;have c:=(w.L1 (u:=[.map K5])).Cj;have g:=KJ w t av;rw[Ak hk] at g;have m:=rI (h:=h) e;refine⟨h2,p,?_,l,FC.trans ⟨AB,λi hi _=>Al hi,λ_ hf=> .inl hf⟩ j⟩;rw[Ag,iQ,t33];simp only[abS,↓reduceIte,g.Af,Cj,(aLW h).Af,c,DJ,m,UH,aC,CR,A8,f,r2.Af]
def aHP(w:PB h bi b F)(hk:t.ok)(e:Jb b.mode K5 0=some none):Gn h F 33 [Pt bi 0,.agg (CT t av)] ff bi b:=by have Cj:=w.Cj;have w1:=w.L1 (u:=[.map K5]);have c:=w1.Cj;have d:=KJ w t av;rw[Ak hk] at d;have f:=rI (h:=h) e;refine⟨_,F,?_,w1,⟨AB,λi hi _=>Al hi,λ_ hf=> .inl hf⟩⟩;rw[Ag,iQ,t33];simp only[abS,↓reduceIte,d.Af,Cj,(aLW h).Af,c,DJ,f,UH]
def aRb{qk:Dr->Bool}(w:PB h bi b F)(g:Gz b (n+8*(4*(o+a+8)+10)+8*a+2000) o a)(ht:t.Sm)(hv:BF t.As av)(hq:∀h,CD cx 67 [.agg (CT t av)] h (.bool (qk t)) h)(ho:b.mode=6->Ny b)(hf:b.mode=18->∀h',PB h' bi b F->∀m,t.k=2->Gn h' F 87 [Pt bi 0,I m] tt bi (b.E9 m).1):Gn h F 33 [Pt bi 0,.agg (CT t av)] (.bool (b.apply qk t).2) bi (b.apply qk t).1:=by
 have ge:∀{m},m<=n+8*(4*(o+a+8)+10)+8*a+2000->Gz b m o a:=λh=>g.dn h;have w1:=w.L1 (u:=[.map K5]);unfold BS.apply;by_cases r:¬t.ok;.rw[Ae r];have s:=KJ w t av;rw[Ap r] at s;refine⟨_,_,?_,w,.refl⟩;rw[Ag,iQ,t33];simp only[abS,↓reduceIte,s.Af]
 rw[Aa r];have hk:=EZ.1 r;by_cases q:b.mode=1;.rw[Ae q];exact P4 w hk (i:=0) (k:=45) (by rw[q];rfl) Az (aRa (n:=n) w1 (ge Ac) ht hv hq)
 rw[Aa q];by_cases p:b.mode=2;.rw[Ae p];exact P4 w hk (i:=1) (k:=46) (by rw[p];rfl) Az (aQx (n:=n) w1 (ge Ac) ht hv)
 rw[Aa p];by_cases l:b.mode=3;.rw[Ae l];exact P4 w hk (i:=2) (k:=47) (by rw[l];rfl) Az (aQy (n:=n) w1 (ge Ac) ht hv (λhs=>RQ (n:=n) w1 (ge Ac) ht hv hs))
 rw[Aa l];by_cases j:b.mode=4;.rw[Ae j];exact P4 w hk (i:=3) (k:=48) (by rw[j];rfl) Az (lK (n:=n) w1 (ge Ac) ht hv (λhs=>RQ (n:=n) w1 (ge Ac) ht hv hs))
 rw[Aa j];by_cases f:b.mode=5;.rw[Ae f];exact P4 w hk (i:=4) (k:=49) (by rw[f];rfl) Az (aQz (n:=n) w1 (ge Ac) ht hv (λhs=>RQ (n:=n) w1 (ge Ac) ht hv hs))
 rw[Aa f];by_cases c:b.mode=6;.rw[Ae c];exact P4 w hk (i:=5) (k:=50) (by rw[c];rfl) Az (aQB (n:=n) w1 (ge Ac) ht hv (ho c) (λhs=>RQ (n:=n) w1 (ge Ac) ht hv hs))
 rw[Aa c];by_cases e:b.mode=7;.rw[Ae e];exact P4 w hk (i:=6) (k:=51) (by rw[e];rfl) Az (aQ7 (n:=n) w1 g ht hv)
 rw[Aa e];by_cases d:b.mode=8;.rw[Ae d];exact P4 w hk (i:=7) (k:=52) (by rw[d];rfl) Az (aQC (n:=n) w1 (ge Ac) ht hv)
 rw[Aa d];by_cases mX:b.mode=18;.rw[Ae mX];exact P4 w hk (i:=8) (k:=53) (by rw[mX];rfl) Az (aLT (n:=n) w1 (ge Ac) ht hv (hf mX _ w1))
 rw[Aa mX];exact aHP w hk (by simp only[K5,Jb,q,p,l,j,f,c,e,d,mX,DK])
end
section
variable{av:Ab}
def qE1:Ah:=aYl
def qE2:Ah:=aYn
def qE3:Ah:=[72,84,77,76]
def qA:Ah:=aYs
def qB:Ah:=aYg
def H9:List Ah:=[qE1,qE2,qE3]
def xD:List Ah:=[aYw,aYo,aYD,aYh,aYi,aYE,aYa,aYA,aX9,aX3,aXX,aXZ,aYx,aYk]
def fB:List Ah:=[qA,qB]
def vq{k:IntKind}{s:Ah}{b z:Nat}(hb:b<=s.length):AE (.Ro z true false true) [.str s,.int k (b:Int)]=some (.str (s.take b)):=by
 have a:EU (b:Int) s.length=some b:=by unfold EU;rw[Ae Ac];rfl
 simp[AE,JC,D1,a]
def JN(p w:Ah):Bool:=decide (w.length<=p.length/\Fk (p.take w.length)=Fk w)
def Xq(p w:Ah):Bool:=decide (Fk p=Fk w)
def aRc{v:Ab}{l:List Ah}(hv:IP l v)(hn:l.length<9223372036854775807)(h:Ai){f:FuncId}{caps:List Ab}{p:Ah->Bool}(hk:f<=99999)(hp:∀a∈l,CD cx f (.str a::caps) h (.bool (p a)) h):
  CD cx 189 [v,.func (.func f) [] caps] h (I (Ct p 0 l)) h:=by
 rw[Ag,dy,aFS];have hlen:(l.map Cw).length=l.length:=Aw ..;simp only[Cy,Bx.len hv];refine Cv (λn:Nat=>[I 0,I (n:Int)]) (λn h1=>n<=l.length/\Ct p 0 l=Ct p n (l.drop n)/\h1=h) (λn=>l.length-n) 0 rfl ⟨Bn _,rfl,rfl⟩ ?_;rintro n h1 ⟨b,ha,rfl⟩;rcases Bm n l.length with hlt|JA
 .have i1:(n:Int)<((l.map Cw).length:Int):=by rw[hlen];omega
  have c:(l.map Cw)[n]'(by rw[hlen];exact hlt)=Cw l[n]:=AB;rw[AA hlt,Ct] at ha;simp only[Cy,hZ,↓reduceIte,CR,hk,i1,Bx.Hj hv (show n<(l.map Cw).length by rw[hlen];exact hlt),c,Cw,(hp _ (AG hlt)).Af];rw[DE];refine⟨λhe=>?_,λhe=>?_⟩;.rw[ha,Ae he]
  .rw[Aa (by simp[he])] at ha;simp only[Cy,DB (Ac:n<9223372036854775807)];exact By.next (n+1) rfl ⟨hlt,ha,rfl⟩ Ac
 .have i1:¬(n:Int)<((l.map Cw).length:Int):=by rw[hlen];omega
  rw[AX JA,Ct] at ha;simp only[Cy,i1,AP,AO,AK,ha]
def aCd{U:Type}{p:U->Bool}{l:List U}:decide (0<=Ct p 0 l)=l.any p:=by
 have:l.any p=(l.find? p).isSome:=by rw[Mz,aTd,Ov]
 rw[this];rcases Hp (p:=p) (l:=l) (k:=0) with⟨h1,h2⟩|⟨n,a,h1,h2,h3⟩
 .rw[h1,h2];simp
 .rw[h1,h3];simp
def aRd{v:Ab}{l:List Ah}(hv:IP l v)(hn:l.length<9223372036854775807)(h:Ai){f:FuncId}{caps:List Ab}{p:Ah->Bool}(hk:f<=99999)(hp:∀a∈l,CD cx f (.str a::caps) h (.bool (p a)) h):
  CD cx 115 [v,.func (.func f) [] caps] h (.bool (l.any p)) h:=by
 rw[Ag,bd,aFf];simp only[Cy,(aRc hv hn h hk hp).Af,aCd]
def aLX(t:Dr)(ht:t.Lg.length<=AY)(w:Ah)(hw:w.length<=AY)(h:Ai):CD cx 114 [.str w,.Cd (CT t av)] h (.bool (JN t.Lg w)) h:=by
 have hc:(t.Lg.take w.length).length<=AY:=by rw[Ax];omega
 rw[Ag,bc,aFe,CT];simp only[Cy];refine⟨λh=>?_,λh=>?_⟩
 .have h:w.length<=t.Lg.length:=by omega
  simp only[Cy,vq h,(Ĕ _ _ hc hw).Bz rfl rfl,JN,h]
 .have h:¬w.length<=t.Lg.length:=by omega
  simp[h,JN]
def ZJ(t:Dr):Bool:=
 if t.k≠1 then false else if t.q=true then true else if t.hn=false then true else if t.name≠aXM then true else if t.hp=false then false
 else H9.any (Xq t.Lg)||xD.any (JN t.Lg)||(!t.hs&&fB.any (JN t.Lg))
def f75(t:Dr)(ht:t.Lg.length<=AY)(h:Ai):CD cx 67 [.agg (CT t av)] h (.bool (ZJ t)) h:=by
 have c:=Fp (ws:=xD) (args:=xD.map Ab.str) rfl Az;have g:=Fp (ws:=H9) (args:=H9.map Ab.str) rfl Az;generalize y:(Ab.sl 1 (xD.map Cw))=G at c;generalize v:(Ab.sl 1 (H9.map Cw))=z2 at g;simp only[xD,H9,qE1,qE2,qE3,AV,CM] at c g;try dsimp only at c g
 rw[<-y] at c;rw[<-v] at g;have w1:∀w∈xD,w.length<=AY:=Ed;have B:∀w∈fB,w.length<=AY:=Ed;have D:∀w∈H9,w.length<=AY:=Ed;have hv:IP H9 (.sl 1 (H9.map Cw)):= .mk;have hlen:(H9.map Cw).length=3:=rfl;have qD:H9.length=3:=rfl;have C:=λw hw=>aLX (av:=av) t ht w hw h;have i:=λk=>(aRd (l:=xD) .mk Az h (f:=114) (caps:=[.Cd (CT t av)]) (p:=JN t.Lg) Az (λa ha=>aLX (av:=av) t ht a (w1 a ha) h)).Af (k:=k) (Q:=λx vs h1=>x= .ret/\vs=[.bool (ZJ t)]/\h1=h);have u:=λk=>(C qA (B _ (by simp[fB]))).Af (k:=k) (Q:=λx vs h1=>x= .ret/\vs=[.bool (ZJ t)]/\h1=h);have s:=λk=>(C qB (B _ (by simp[fB]))).Af (k:=k) (Q:=λx vs h1=>x= .ret/\vs=[.bool (ZJ t)]/\h1=h);have A:fB.any (JN t.Lg)=(JN t.Lg qA||JN t.Lg qB):=by simp[fB]
 have hq:ZJ t=ZJ t:=rfl;conv at hq=>rhs;unfold ZJ
 rw[A] at hq;rw[Ag,ò,t67,CT];rw[CT] at i u s;simp only[QM,RA,AJ,AZ,Nat.reduceAdd,↓reduceIte,Nk,bZ,aNd];by_cases e:t.k=1;rotate_left;.rw[Ae e] at hq;simp only[abS,e,CP,hq]
 rw[Aa (by simp[e])] at hq;simp only[abS,e,CP];cases r:t.q with
 |true=>rw[Ae r] at hq;simp only[Cy,hq]
 |false=>
  rw[Aa (by simp[r])] at hq;simp only[Cy];cases o:t.hn with
  |false=>rw[Ae o] at hq;simp only[abS,hq]
  |true=>
   rw[Aa (by simp[o])] at hq;simp only[abS];by_cases d:t.name=aXM;rotate_left;.rw[Ae d] at hq;simp only[abS,d,hq]
   rw[Aa (by simp[d])] at hq;simp only[abS,d];cases m:t.hp with
   |false=>rw[Ae m] at hq;simp only[abS,hq]
   |true=>
    rw[Aa (by simp[m])] at hq;simp only[abS,g,Bx.len hv,hlen];refine Cv (λn:Nat=>[.bool false,I (n:Int)]) (λn h1=>n<=H9.length/\H9.any (Xq t.Lg)=(H9.drop n).any (Xq t.Lg)/\h1=h) (λn=>H9.length-n) 0 rfl ⟨Bn _,rfl,rfl⟩ ?_;rintro n h1 ⟨E,ha,rfl⟩;rcases Bm n H9.length with hlt|JA
    .have i1:(n:Int)<((3:Nat):Int):=by omega
     have A:(H9.map Cw)[n]'(by rw[hlen];omega)=Cw H9[n]:=AB;have F:decide (Fk t.Lg=Fk H9[n])=Xq t.Lg H9[n]:=rfl;rw[AA hlt,Tc] at ha;simp only[Cy,hZ,i1,Bx.Hj hv (show n<(H9.map Cw).length by rw[hlen];omega),A,Cw,(Ĕ _ _ ht (D _ (AG hlt))).Bz rfl rfl,F,DB (Ac:n<9223372036854775807)];rw[DE];refine⟨λb=>?_,λb=>?_⟩;.rw[b,Qp] at ha;rw[ha,Qp,Qp] at hq;rw[hq]
     .rw[b,Kg] at ha;exact By.next (n+1) rfl ⟨hlt,ha,rfl⟩ Ac
    .have i1:¬(n:Int)<((3:Nat):Int):=by omega
     rw[AX JA,sC] at ha;rw[ha,Kg] at hq;simp only[abS,i1];cases j:t.hs with
     |true=>rw[j] at hq;rw[e,r,o,d,m,j] at i;simp only[abS,c,i];rw[hq];simp
     |false=>
      rw[j] at hq;rw[e,r,o,d,m,j] at i u s;simp only[qA,qB] at u s hq;simp only[abS,↓reduceIte,c,i,u,s,CR,Nat.reduceLeDiff];rw[DE,DE];refine⟨λb=>?_,λb=>⟨λz=>?_,λz=>?_⟩⟩;.rw[hq,b];simp
      .rw[hq,z];simp
      .rw[hq,b,z];simp
end
def Gv(m:Int):Bool:=decide ((1<=m/\m<=8)\/m=18)
def aLY(m:Int):NL cx 21 [I m] (.bool (Gv m)):=by rw[RU,æ,t21];unfold Gv;by_cases h1:1<=m<;>by_cases h2:m<=8<;>by_cases h3:m=18<;>simp[h1,h2,h3]
def aRf{t:Dr}{av:Ab}(hv:BF t.As av)(hl:t.As.length<=1000000):∃vo,BF t.As vo/\∀h,CD cx 34 [.agg (CT t av)] h (.agg (CT t vo)) h:=by obtain⟨u,e,hu⟩:=Bx.Wy (l:=([]:List Bj)) (f:=Bj.row) (v:= .slnil) (b:=40) (.inr ⟨rfl,rfl⟩) hv (by simp;have:AY=140737488355328:=rfl;omega);refine⟨u,hu,λh=>?_⟩;have hc:u.cells=[u]:=Bx.cells hu;rw[Ag,ì,t34];simp only[Cy,Nat.reduceLeDiff,↓reduceIte,CT,e,hc,AJ,AZ,Nk,bZ]
section
variable{sa:List Bj->Bool}{t:Dr}{av:Ab}{h:Ai}
def Dr.qQ(sa:List Bj->Bool)(t:Dr):Bool:=decide (t.name.length<=60)&&(decide (t.Lg.length<=100)&&(decide (t.sys.length<=100)&&(decide (t.data.length<=200)&&sa t.As)))
def ZK{l:List (Dr×Ab)}{v:Ab}(hv:Bx 12 (l.map λp=>CT p.1 p.2) v){k:Nat}(hk:k<l.length):AE (.Hj 12) [v,I (k:Int)]=some (.Cd (CT l[k].1 l[k].2)):=Bx.DN hv hk
end
section
variable{h u:Ai}{bi k:Nat}{cs:List Ab}{v:Ab}
def vr(hk:k<cs.length):cs.take k++[v]++cs.drop (k+1)=cs.set k v:=by rw[Cc,Ae hk];simp
def ZL(hl:bi<h.length):(h.set bi (.cells cs)++u)[bi]?=some (.cells cs):=by rw[Al (by simpa using hl),AI hl]
def lO(hl:bi<h.length){x y:GX}:(h.set bi x++u).set bi y=h.set bi y++u:=by rw[aMd _ _ (by simpa using hl),ND]
def aCe(hl:bi<h.length):Bp (h.set bi (.cells cs)++u) none (Pt bi k)=cs[k]?:=by simp only[Bp,ZL hl,Jh]
def ZM(hl:bi<h.length)(hv:v.cells=[v])(hk:k<cs.length):Dd (h.set bi (.cells cs)++u) 1 (Pt bi k) v=some (h.set bi (.cells (cs.set k v))++u):=by simp only[Dd,ZL hl,hv,AQ];rw[Ae ⟨trivial,Ac⟩,vr hk,lO hl]
def aRg(hl:bi<h.length)(hk:4<cs.length)(m:Int):CD cx 64 [Pt bi 0,I m] (h.set bi (.cells cs)++u) tt (h.set bi (.cells (cs.set 4 (I m)))++u):=by have e:=ZM (h:=h) (u:=u) (bi:=bi) (k:=4) (cs:=cs) (v:= I m) hl rfl hk;rw[Ag,vY,t64];simp only[Cy,e]
def Ur(l:List Int):(l.map Di).flatten=l.map (Ab.int .i64):=by
 induction l with
 |nil=>rfl
 |cons x l ih=>rw[AV,CS,ih];rfl
def aRh(l:List Int)(h:Ai)(hb:l.length<=1000000000):∃v u,CD cx 200078 [.sl 1 (l.map Di)] h v (h++u)/\((l=[]/\v= .Hi 1/\u=[])\/(l≠[]/\v= .Du h.length 0 l.length 1/\u=[.cells (l.map (Ab.int .i64))])):=by
 have hm:AY=140737488355328:=rfl;cases l with
 |nil=>refine⟨.Hi 1,[],?_,.inl ⟨rfl,rfl,rfl⟩⟩;rw[A8,Ag,SQ,Xi];have c:Lp h 1 8 (.Hi 1) (.sl 1 [])=some (h,.Hi 1):=rfl;simp only[Cy,CM,show AE (.Gs false .sl) [.sl 1 [],.slnil]=some (.bool false) from rfl,show AE (.Hi 1) []=some (.Hi 1) from rfl,c]
 |cons x l=>
  refine⟨_,_,?_,.inr ⟨AB,rfl,rfl⟩⟩;have c:Lp h 1 8 (.Hi 1) (.sl 1 ((x::l).map Di))=some (h++[.cells ((x::l).map (Ab.int .i64))],.Du h.length 0 (x::l).length 1):=by
   have Su:((x::l).map Di).length*8<=AY:=by rw[Aw];omega
   rw[<-Ur];simp only[AV] at Su⊢;simp only[Lp,Pj,beq_self_eq_true,BN];rw[Ae ⟨trivial,Su⟩];simp
  rw[Ag,SQ,Xi];simp only[Cy,show AE (.Gs false .sl) [.sl 1 ((x::l).map Di),.slnil]=some (.bool false) from rfl,show AE (.Hi 1) []=some (.Hi 1) from rfl,c]
end
section
variable{h h':Ai}{bi:Nat}{b b':BS}{F F':Nat->Prop}{n o a:Nat}
def aRi(w:PB h bi b F)(g:Gz b n o a)(hne:b.tm≠[])(m:Int):Gn h F 87 [Pt bi 0,I m] tt bi (b.E9 m).1:=by
 have M:=g.rm.tm;have w0:=w;obtain⟨S,L,c,q,G,w,hc,rfl⟩:=w;have hl:=w.lt;have hpos:=CB.2 hne;obtain⟨cs,hcs⟩:∃cs,cs=SU S b L c q:=⟨_,rfl⟩;have hb:=w.hb;rw[<-hcs] at hb;have hcl:cs.length=20:=by rw[hcs];rfl
 have T:cs[6]?=some q:=by rw[hcs];rfl
 have A:q= .sl 1 (b.tm.map Di):=by
  rcases w.t with e|⟨_,e⟩
  .exact e
  .exact absurd (by simpa using e) hne
 have e0:h=h.set bi (.cells cs)++[]:=by rw[A8,TR hb]
 have lt:=Bx.GN w.t;have s:Bp h none (Pt bi 6)=some q:=w.l6;obtain⟨l',j⟩:∃l',l'=b.tm.dropLast:=⟨_,rfl⟩;have N:l'.length=b.tm.length-1:=by rw[j];simp
 have es:AE (.Ro 1 false false true) [q,I ((b.tm.length-1:Nat):Int)]=some (.sl 1 (l'.map Di)):=by
  have C:EU ((b.tm.length-1:Nat):Int) (b.tm.map Di).length=some (b.tm.length-1):=by unfold EU;rw[Aw,Ae Ac];rfl
  rw[A,j,WM];simp only[AE,JC,D1,C,BW,rY,BN,K8,HN]
 obtain⟨v,u,J,hv⟩:=aRh l' h Ac;have y:v.cells=[v]:=by rcases hv with⟨_,rfl,_⟩|⟨_,rfl,_⟩<;>rfl
 have C:h++u=h.set bi (.cells cs)++u:=by rw[TR hb]
 have r:Dd (h++u) 1 (Pt bi 6) v=some (h.set bi (.cells (cs.set 6 v))++u):=by rw[C];exact ZM hl y Ac
 have H:CD cx 100091 [Pt bi 0] h (.tuple []) (h.set bi (.cells (cs.set 6 v))++u):=by rw[Ag,Y6,jZ];simp only[abS,s,lt,(Ac:(0:Int)<(b.tm.length:Int)),Ol hpos (Ac:b.tm.length<9223372036854775807),es,J.Af,r]
 have x:Bp (h.set bi (.cells (cs.set 6 v))++u) none (Pt bi 6)=some v:=by rw[aCe hl,AI Ac]
 have em:AE (.Cb 1) [I m]=some (.sl 1 [[I m]]):=rfl;have aWJ:AY=140737488355328:=rfl;obtain⟨id,p,d,P,hfz⟩:∃(id:Nat) (p d:Ai),Hk (h.set bi (.cells (cs.set 6 v))++u) 1 8 v (.sl 1 [[I m]])=some (h.set bi (.cells (cs.set 6 v))++p,.Du id 0 (l'.length+1) 1)/\∀ds:List Ab,L6 (h.set bi (.cells ds)++p) (.Du id 0 (l'.length+1) 1)=some (h.set bi (.cells ds)++d,.sl 1 ((l'++[m]).map Di)):=by
  rcases hv with⟨h0,rfl,rfl⟩|⟨h0,rfl,rfl⟩
  .refine⟨h.length,[.cells [I m]],[.Ef],?_,λds=>?_⟩;.rw[h0,A8];simp[Hk,Ij];omega
   .rw[h0];have hg:(h.set bi (.cells ds)++[.cells [I m]])[h.length]?=some (.cells [I m]):=by rw[Bu AB];simp
    simp only[L6,hg,AZ,BG];rw[Ae AB];congr 2
    rw[Ce _ _ AB];simp
  .refine⟨h.length+1,[.Ef,.cells ((l'++[m]).map (Ab.int .i64))],[.Ef,.Ef],?_,λds=>?_⟩
   .have hg:(h.set bi (.cells (cs.set 6 (.Du h.length 0 l'.length 1)))++[.cells (l'.map (Ab.int .i64))])[h.length]?=some (.cells (l'.map Di).flatten):=by rw[Bu AB,Ur];simp
    have:=SH (id:=h.length) (z:=1) (b:=8) (v:= .sl 1 [[I m]]) (Ay:=l'.map Di) (r2:=[[I m]]) (OQ (f:=Di) (λa=>rfl) l') Az hg .mk AB EE;rw[Aw] at this;rw[this];congr 2
    .rw[Ce _ _ AB];have:([m].map (Ab.int .i64))=[[I m]].flatten:=rfl;simp[Ur]
    .simp
   .have hg:(h.set bi (.cells ds)++[GX.Ef,.cells ((l'++[m]).map (Ab.int .i64))])[h.length+1]?=some (.cells ((l'++[m]).map Di).flatten):=by rw[Bu AB,Ur];simp
    have:=OP (OQ (f:=Di) (z:=1) (λa=>rfl) (l'++[m])) hg;rw[Aw,An,AQ] at this;rw[this];congr 2
    rw[Ce _ _ AB];simp
 have Ĳ:=ZM (h:=h) (u:=p) (bi:=bi) (k:=6) (cs:=cs.set 6 v) (v:= .Du id 0 (l'.length+1) 1) hl rfl EE;rw[ND] at Ĳ;have K:=aRg (h:=h) (u:=p) (bi:=bi) (cs:=cs.set 6 (.Du id 0 (l'.length+1) 1)) hl EE m;have fz:=hfz ((cs.set 6 (.Du id 0 (l'.length+1) 1)).set 4 (I m));have hfa:Lq (h.set bi (.cells ((cs.set 6 (.Du id 0 (l'.length+1) 1)).set 4 (I m)))++p) 6 (Pt bi 0)=some (h.set bi (.cells ((cs.set 4 (I m)).set 6 (.sl 1 ((l'++[m]).map Di))))++d):=by
  have B:((cs.set 6 (.Du id 0 (l'.length+1) 1)).set 4 (I m))[0+6]?=some (.Du id 0 (l'.length+1) 1):=by rw[BG,Aq Az,AI Ac]
  unfold Lq;simp only[ZL hl,B,fz,Cx,lO hl];congr 3
  rw[BG,List.set_comm _ _ (Az:(4:Nat)≠6),ND,List.set_comm _ _ (Az:(6:Nat)≠4)]
 have w1:=w0.L1 (u:=d);obtain⟨_,E,_⟩:=GU w1 m;obtain⟨_,D,_⟩:=aLC E (l:=l'++[m]) (v:= .sl 1 ((l'++[m]).map Di)) .mk;have O:Am.put (Am.put (h++d) bi 4 (I m)) bi 6 (.sl 1 ((l'++[m]).map Di))=h.set bi (.cells ((cs.set 4 (I m)).set 6 (.sl 1 ((l'++[m]).map Di))))++d:=by
  have R:h++d=h.set bi (.cells cs)++d:=by rw[TR hb]
  rw[R,IQ (ZL hl),lO hl,IQ (ZL hl),lO hl]
 rw[O] at D;have Q:(b.E9 m).1={{b with mode:=m} with tm:=l'++[m]}:=by rw[j];rfl
 rw[Q];refine⟨_,_,?_,D,?_⟩;.rw[Ag,Ă,t87];simp only[Cy,H.Af,x,em,P,Ĳ,K.Af,hfa]
 .refine⟨AB,λi hi hF=>?_,λi hi=> .inl hi⟩;have aRj:i≠bi:=λe=>hF (.inl e);rw[Al (by simpa using hi),Aq (C3 aRj)]
end
noncomputable def L4(qk:Dr->Bool)(t:Dr):Nat->BS->BS×Bool
 |0,b=>(b, !Gv b.mode)
 |k+1,b=>if Gv b.mode=false then(b,true) else if(b.apply qk t).2=false then((b.apply qk t).1,true) else L4 qk t k (b.apply qk t).1
section
variable{h h':Ai}{bi:Nat}{b b':BS}{F:Nat->Prop}{t:Dr}{av:Ab}
def aRk{qk:Dr->Bool}{J:Nat->BS->Prop}(w:PB h bi b F)(ht:t.Sm)(hv:BF t.As av)(hq:∀{vo:Ab} (h:Ai),CD cx 67 [.agg (CT t vo)] h (.bool (qk t)) h)
  (hI:∀k c,J (k+1) c->Gv c.mode=true->∃n o a,Gz c (n+8*(4*(o+a+8)+10)+8*a+2000) o a/\(c.mode=6->Ny c)/\(c.mode=18->c.tm≠[])/\((c.apply qk t).2=true->J k (c.apply qk t).1))
  (h0:J (9+b.tm.length) b) (u:b.tm.length<=1000000000):Gn h F 20 [Pt bi 0,.agg (CT t av)] (.bool (L4 qk t (9+b.tm.length) b).2) bi (L4 qk t (9+b.tm.length) b).1:=by
 obtain⟨z,l6,l⟩:=w.ltm;have lt:=Bx.GN l;have WV:t.As.length<=1000000:=by have:=ht.As.1;omega
 have Ql:Ev cx 20 [Pt bi 0,.agg (CT t av)] h λr h'=>r= .bool (L4 qk t (9+b.tm.length) b).2/\∃F',PB h' bi (L4 qk t (9+b.tm.length) b).1 F'/\FC h F h' F':=by
  unfold Ev;obtain⟨vo,Lm,ro⟩:=aRf hv WV;rw[å,t20];have y:AE (.int .add) [I 9,I (b.tm.length:Int)]=some (I ((9+b.tm.length:Nat):Int)):=by rw[RE Ac Ac];simp
  generalize A:9+b.tm.length=N at*;simp only[CT] at ro;simp only[abS,Nat.reduceLeDiff,↓reduceIte,CT,l6,lt,y];refine Cv (λk:Nat=>[ff,I (k:Int)]) (λk h1=>k<=N/\∃c i,PB h1 bi c i/\J (N-k) c/\FC h F h1 i/\L4 qk t (N-k) c=L4 qk t N b) (λk=>N-k) 0 rfl ⟨Bn _,b,F,w,h0,.refl,rfl⟩ ?_;rintro k h1 ⟨hk,c,i,w1,i1,j,d⟩;have l1:=w1.Cj;have e:=aLY c.mode;by_cases hlt:k<N
  .have f:(k:Int)<(N:Int):=by omega
   obtain⟨r,hr⟩:∃r,N-k=r+1:=⟨N-k-1,Ac⟩;have Ib:N-(k+1)=r:=Ac;rw[hr] at i1 d;rw[L4] at d;cases ho:Gv c.mode with
   |false=>rw[ho] at e d;rw[Ae rfl] at d;simp only[abS,f,l1,e.Bz rfl rfl];exact⟨_,rfl,by rw[<-d],i,by rw[<-d];exact w1,j⟩
   |true=>
    rw[ho] at e d;rw[Aa AB] at d;obtain⟨n,o,a,g,x,gf,v⟩:=hI r c i1 ho;obtain⟨h2,s,r2,q,p⟩:=aRb w1 g ht Lm hq x (λhm h' w' m _=>aRi w' g (gf hm) m);simp only[CT] at r2;cases ha:(c.apply qk t).2 with
    |false=>rw[ha] at r2 d;rw[Ae rfl] at d;simp only[abS,f,l1,e.Bz rfl rfl,(ro h1).Af,r2.Af];exact⟨_,rfl,by rw[<-d],s,by rw[<-d];exact q,j.trans p⟩
    |true=>rw[ha] at r2 d;rw[Aa AB] at d;simp only[abS,f,l1,e.Bz rfl rfl,(ro h1).Af,r2.Af,DB (Ac:k<9223372036854775807)];exact By.next (k+1) rfl ⟨hlt,(c.apply qk t).1,s,q,by rw[Ib];exact v ha,j.trans p,by rw[Ib];exact d⟩ Ac
  .have f:¬(k:Int)<(N:Int):=by omega
   have hr:N-k=0:=Ac;rw[hr] at d;rw[L4] at d;simp only[abS,f,l1,e.Bz rfl rfl];exact⟨_,rfl,by rw[<-d],i,by rw[<-d];exact w1,j⟩
 obtain⟨r,h',hr,rfl,F',hp,hx⟩:=Ql.ret;exact⟨h',F',hr,hp,hx⟩
end
def bJ:List Ah:=[aX7,aYO,aZh,aYq,aYI,aZx,aYV,[110,111,101,109,98,101,100]]
abbrev aHQ:Ah:=aXY
def Shp(m:Int)(l:List Item)(tm:List Int):Prop:=
 ((m=1\/m=2)/\l=[]/\tm=[])\/(m=3/\(∃h,l=[h]/\AH [IW] h=true)/\tm=[])
 \/(m=4/\(∃h d,l=[h,d]/\AH [IW] h=true/\AH [I2] d=true)/\tm=[])
 \/(m=5/\(∃h d x,l=[h,d,x]/\AH [IW] h=true/\AH [I2] d=true/\AH [aHQ] x=true)/\tm=[])
 \/(m=6/\(∃h,l=[h]/\AH [IW] h=true)/\tm=[])
 \/((m=7\/(m=18/\tm≠[]))/\∃P,DL P l tm.length)
structure Ep(b:BS):Prop where
 cm:Cm b
 hd:4<=b.mode->Mn b
 sh:b.mode≠8->Shp b.mode b.Au b.tm
 Zu:b.mode=8->∃X r,b.Au=X++[r]/\AH bJ r=true/\4<=b.IV/\b.IV≠8/\Shp b.IV X b.tm
def fC(m:Int)(n:Nat):Nat:=if m=1 then 6 else if m=2 then 5 else if m=3 then 4 else if m=4 then 3 else if m=5 then 4 else if m=6 then 2 else if n=0 then 1 else n+3
def MF(t:Dr)(b:BS):Nat:=if t.k=6 then(if b.mode=8 then fC b.IV b.tm.length+1 else fC b.mode b.tm.length) else(if b.mode=8 then 1 else if b.mode=18 then 2 else fC b.mode 0)
def bK(b:BS):Nat:=if b.mode=1\/b.mode=2 then 4 else if b.mode=3 then 3 else if b.mode=4\/b.mode=5\/b.mode=6 then 2 else 1
structure Tr(b c:BS):Prop where
 o:c.Au.length+bK c<=b.Au.length+bK b
 a:c.A3.length<=b.A3.length
 r:∀m,CH b (m+5)->CH c m
def NX(t:Dr)(b:BS)(r:BS×Bool):Prop:=Gv r.1.mode=false\/(Ep r.1/\(r.2=true->MF t r.1<MF t b/\Tr b r.1))
section
variable{P:List Item}{q:Int}{T:List Int}{m k j n:Nat}{b c d:BS}{nm x:Ah}{l:List Item}{at_:List Bj}{t:Dr}{sp h:Int}{i:Item}
def mz{m:Int}:1<=fC m n:=by unfold fC;(repeat' split)<;>omega
def xE{m:Int}:fC m n<=n+6:=by unfold fC;(repeat' split)<;>omega
def Œ:1<=MF t b:=by have:=@mz b.tm.length b.mode;have:=@mz 0 b.mode;unfold MF;(repeat' split)<;>omega
def aCf:MF t b<=9+b.tm.length:=by have:=@xE b.tm.length b.mode;have:=@xE b.tm.length b.IV;have:=@xE 0 b.mode;unfold MF;(repeat' split)<;>omega
def NX.ite{c:Prop}[Decidable c]{x y:BS×Bool}(h1:c->NX t b x)(h2:¬c->NX t b y):NX t b (if c then x else y):=by
 split;.rename_i h;exact h1 h
 .rename_i h;exact h2 h
def NX.B0(h:Ep c):NX t b (c,false):= .inr ⟨h,λe=>by cases e⟩
def Js(o:Dp P q T c)(hm:q=7\/(q=18/\T≠[])):Ep c:=
 ⟨o.cm,λ_=>o.hd,λ_=> .inr (.inr (.inr (.inr (.inr ⟨by rw[o.md,o.tme];exact hm,P,by rw[o.tme];exact o.d⟩)))),λh=>by rw[o.md] at h;omega⟩
def Ep.dp(o:Ep b)(hm:b.mode=7\/b.mode=18):(b.mode=18->b.tm≠[])/\∃P,Dp P b.mode b.tm b:=by
 have e:b.mode≠8:=Ac;rcases o.sh e with h|h|h|h|h|h
 .omega
 .omega
 .omega
 .omega
 .omega
 .refine⟨λh1=>?_,?_⟩
  .rcases h.1 with h2|h2
   .omega
   .exact h2.2
  .obtain⟨P,a⟩:=h.2;exact⟨P,o.cm,o.hd Ac,a,rfl,rfl⟩
def rJ(hk:0<k)(h1:AS i=true->okI i)(h2:Em i=false):b.HF i k=none:=by
 have hb:i.Bd=1->i.name∉bF:=λhs hn=>by
  have key:∀w∈bF,D5 1 w=true:=Ed;have:AS i=true:=by unfold AS;rw[hs];exact key _ hn
  exact h1 this hs hn
 unfold BS.HF;split
 .rename_i hs;have hn:=hb hs;have s:i.name≠AW:=λe=>by have:Em i=true:=B9.2 ⟨hs,by simp[e]⟩;rw[this] at h2;cases h2
  have hf:IE.find? (λr=>decide (r.1=i.name))=none:=by rw[MK];intro r hr;simp only[CF];intro e;have key:∀r∈IE,r.1∈bF:=Az;exact hn (e▸key r hr)
  rw[hf];have p:i.name≠KU:=λe=>hn (by rw[e];decide);have o:i.name≠xq:=λe=>hn (by rw[e];decide);have g:i.name≠xr:=λe=>hn (by rw[e];decide);have f:i.name≠I2:=λe=>hn (by rw[e];decide);have a:i.name≠IW:=λe=>hn (by rw[e];decide);simp only[p,o,g,f,a,s,DK,false_or,aD,Aa (Ac:¬k=0)]
 .rw[Aa Ac]
def N9(h0:0<k):∀{n:Nat},k<=n->(∀j,k<=j->j<n->b.HF (b.Au.getD j Item.zero) j=none)->b.Io n=b.Io k
 |0,hk,_=>Ac
 |n+1,hk,hs=>by
  rcases Bm k (n+1) with h|h
  .rw[BS.Io];have e:b.D7 n=b.Au.getD n Item.zero:=by unfold BS.D7;rw[Aa Ac]
   rw[e,hs n Ac Ac];exact N9 h0 Ac λj h1 h2=>hs j h1 Ac
  .rw[(Ac:n+1=k)]
def S3(h:Em i=true):b.HF i k=some (b.tm.getLast?.getD 7):=by have h1:=B9.1 h;have h2:=h1.2;simp at h2;unfold BS.HF;rw[Ae h1.1,h2];simp[IE,KU,xq,xr]
def Wc(h:AH [Ii] i=true):b.HF i k=some 7:=by have h1:=B9.1 h;have h2:=h1.2;simp at h2;unfold BS.HF;rw[Ae h1.1,h2];simp[IE]
def rK(h:AH [I2] i=true)(hk:0<k):b.HF i k=some 4:=by have h1:=B9.1 h;have h2:=h1.2;simp at h2;unfold BS.HF;rw[Ae h1.1,h2];simp[IE,KU,xq,xr,hk]
def rL(h:AH [IW] i=true):b.HF i k=some (if b.head=0 then 3 else 6):=by have h1:=B9.1 h;have h2:=h1.2;simp at h2;unfold BS.HF;rw[Ae h1.1,h2];simp[IE,KU,xq,xr]
def lP(h:b.tm≠[])(ht:∀m∈b.tm,m=7\/m=18):b.tm.getLast?.getD 7=7\/(b.tm.getLast?.getD 7=18/\b.tm≠[]):=by
 rw[List.getLast?_eq_some_getLast h,Fx];rcases ht _ (List.getLast_mem h) with h1|h1
 .exact .inl h1
 .exact .inr ⟨h1,h⟩
def Xr{k:Nat}(hk:k<l.length):l.getD k Item.zero=l[k]:=by rw[AL,Av hk];rfl
def xF(d:DL P b.Au b.tm.length)(ht:∀m∈b.tm,m=7\/m=18):b.JR.mode=7\/(b.JR.mode=18/\b.tm≠[]):=by
 show b.Io b.Au.length=7\/(b.Io b.Au.length=18/\b.tm≠[]);have hl:=d.pf.len;have hlen:=d.len;have aHR:∀x∈b.Au,Em x=true->b.tm≠[]:=λx hx o e=>by have:=d.ź;rw[e,AZ,Hy] at this;exact absurd o (this x (BE.2 ⟨hx,spT o⟩))
 have skip:∀k,(hk:k<b.Au.length)->P.length<=k->Em b.Au[k]=false->b.HF (b.Au.getD k Item.zero) k=none:=λk hk h1 h2=>by
  rw[Xr hk];refine rJ Ac (λhs=>d.v' _ ?_ hs) h2;have:b.Au[k]=(b.Au.drop P.length)[k-P.length]'(by rw[A4];omega):=by rw[Hb];congr 1;omega
  rw[this];exact AG _
 rcases BZ (q:=Em) (l:=b.Au) with⟨_,h1⟩|⟨q,hq,_,h1,h2⟩
 .rw[N9 (k:=P.length) Ac hlen (λj h3 a=>skip j a h3 (h1 _ (AG a)))];obtain⟨B,z,g,hz⟩:=d.pf.last;have f:P.length=B.length+1:=by rw[g];simp
  have hk:B.length<b.Au.length:=Ac;have xi:b.Au[B.length]=z:=by
   have a:(b.Au.take P.length)[B.length]'(by rw[Ax];omega)=P[B.length]'(by omega):=by simp only[d.J4]
   rw[IH] at a;rw[a];simp[g]
  rw[f,BS.Io];have e:b.D7 B.length=z:=by unfold BS.D7;rw[Aa Ac,Xr hk,xi]
  rw[e];rcases hz with hz|hz
  .rw[Wc hz];exact .inl rfl
  .rw[S3 hz];exact lP (aHR z (by rw[<-xi];exact AG hk) hz) ht
 .by_cases p:P.length<=q
  .rw[N9 (k:=q+1) Ac Ac (λj h3 a=>skip j a Ac (h2 j a Ac)),BS.Io];have e:b.D7 q=b.Au[q]:=by unfold BS.D7;rw[Aa Ac,Xr hq]
   rw[e,S3 h1];exact lP (aHR _ (AG hq) h1) ht
  .rw[N9 (k:=P.length) Ac hlen (λj h3 a=>skip j a h3 (h2 j a Ac))];obtain⟨B,z,g,hz⟩:=d.pf.last;have f:P.length=B.length+1:=by rw[g];simp
   have hk:B.length<b.Au.length:=Ac;have xi:b.Au[B.length]=z:=by
    have a:(b.Au.take P.length)[B.length]'(by rw[Ax];omega)=P[B.length]'(by omega):=by simp only[d.J4]
    rw[IH] at a;rw[a];simp[g]
   rw[f,BS.Io];have e:b.D7 B.length=z:=by unfold BS.D7;rw[Aa Ac,Xr hk,xi]
   rw[e];rcases hz with hz|hz
   .rw[Wc hz];exact .inl rfl
   .rw[S3 hz];exact lP (aHR z (by rw[<-xi];exact AG hk) hz) ht
def lQ(o:Dp P b.mode b.tm b)(hT:0<=AD Em b.Au)(hc:c=BS.JR {b with Au:=Hc b.Au (AD Em b.Au),A3:=FF b.A3,tm:=b.tm.dropLast}):Ep c/\b.tm≠[]/\fC c.mode c.tm.length<b.tm.length+3/\c.mode≠8/\c.Au.length+1<=b.Au.length/\c.mode≠3:=by
 have ca:c.a=b.a:=by rw[hc];rfl
 have cd:c.BM=b.BM:=by rw[hc];rfl
 have U:c.Au=Hc b.Au (AD Em b.Au):=by rw[hc];rfl
 have V:c.A3=FF b.A3:=by rw[hc];rfl
 have S:c.tm=b.tm.dropLast:=by rw[hc];rfl
 have cf:c.Ha=b.Ha:=by rw[hc];rfl
 have ch:c.head=b.head:=by rw[hc];rfl
 have ck:c.D4=b.D4:=by rw[hc];rfl
 have cg:c.Lh=b.Lh:=by rw[hc];rfl
 have cm:Cm c:=by
  refine⟨((o.cm.ok.KH (Nq (i:=AD Em b.Au))).iO (l:=FF b.A3) (Ch _ _)).of_eq ca cd U V,?_,?_,by rw[ck];exact o.cm.fo,by rw[cg];exact o.cm.fr,λm hm=>o.cm.x_ m ?_⟩;.rw[ca,V];exact o.cm.ac.sub (Ch _ _)
  .rw[ca,cf];exact o.cm.Ż
  .rw[S] at hm;exact(aIK _).subset hm
 have hd:Mn c:=o.hd.le (by rw[ca];exact .refl) ch;have hl:=o.d.pf.len;have hlen:=o.d.len;obtain⟨g,K⟩:∃g,g=({b with Au:=Hc b.Au (AD Em b.Au),A3:=FF b.A3,tm:=b.tm.dropLast}:BS):=⟨_,rfl⟩;rw[<-K] at hc;have hm:c.mode=g.JR.mode:=by rw[hc]
 have F:g.Au=c.Au:=by rw[hc];rfl
 have O:g.tm=c.tm:=by rw[hc];rfl
 have bh:g.head=c.head:=by rw[hc];rfl
 have bf:g.Lh=c.Lh:=by rw[hc];rfl
 rcases BZ (q:=Em) (l:=b.Au) with⟨h1,_⟩|⟨q,hq,h1,h2,h3⟩
 .omega
 have hne:b.tm≠[]:=λe=>by have:=o.d.ź;rw[e,AZ,Hy] at this;exact absurd h2 (this _ (BE.2 ⟨AG hq,spT h2⟩))
 have W:1<=b.tm.length:=CB.2 hne;have Ĥ:1<=q:=by
  rcases Gr q with D|D
  .exfalso;obtain⟨y,r,Y,uc⟩:=o.d.pf.aLy;have:b.Au[0]'(by omega)=y:=by
    have C:(b.Au.take P.length)[0]'(by rw[Ax];omega)=P[0]'(by omega):=by simp only[o.d.J4]
    rw[IH] at C;rw[C];simp[Y]
   subst D;rw[this] at h2;have Q:=(B9.1 h2).2;have L:=(B9.1 uc).2;simp at Q L;rw[Q] at L;exact absurd L Az
  .exact D
 have M:c.Au=b.Au.take q:=by rw[U,h1];unfold Hc;congr 1;omega
 have Z:c.tm.length=b.tm.length-1:=by rw[S,List.length_dropLast]
 have col:c.Au.length+1<=b.Au.length:=by rw[M,Ax];omega
 have X:∀{j},P.length<=j->j=q->DL P (b.Au.take q) (b.tm.length-1):=by
  intro j hj J;subst J;have e:b.Au.filter AS=(b.Au.take j).filter AS++b.Au[j]::(b.Au.drop (j+1)).filter AS:=by
   conv=>lhs;rw[<-Br j b.Au,AA hq]
   rw[Be,CW (spT h2)]
  have hv:=o.d.v;have p:=o.d.ź;have hp:=o.d.GO;rw[e] at hv p hp;refine⟨o.d.pf,by rw[CK,BP hj];exact o.d.J4,λi hi=>hv i ?_,?_,hp.J4⟩;.rw[Jv];exact B4 _ hi
  .have e0:((b.Au.drop (j+1)).filter AS).countP Em=0:=Hy.2 λi hi=>by obtain⟨k,hk,D,rfl⟩:=O3 (BE.1 hi).1;rw[h3 k hk Ac];simp
   rw[JY,List.countP_cons_of_pos h2,e0] at p;omega
 by_cases G:P.length<=q;.have N:=X G rfl;rw[<-M,<-Z] at N;have hr:=xF (b:=g) (P:=P) (by rw[F,O];exact N) (by rw[O];exact cm.x_);rw[<-hm,O] at hr;have Ee:Ep c:=Js (P:=P) ⟨cm,hd,N,rfl,rfl⟩ hr;refine⟨Ee,hne,?_,Ac,col,Ac⟩;unfold fC;(repeat' split)<;>omega
 .have Tx:b.tm.length=1:=by
   have p:=o.d.ź;have e0:((b.Au.drop P.length).filter AS).countP Em=0:=Hy.2 λi hi=>by obtain⟨k,hk,D,rfl⟩:=O3 (BE.1 hi).1;rw[h3 k hk Ac];simp
   rw[o.d.wS,JY,e0] at p
   .have:P.countP Em<=1:=by
     have s:∀{i:Item} {w:Ah},AH [w] i=true->w≠AW->Em i=false:=λh hw=>Zy (by simpa using C3 hw) h;cases o.d.pf with
     |body h o a b=>simp[s a Az,s b Az]
     |Ox h o a b=>simp[s a Az,b]
     |head h d t a b c=>simp[s a Az,s b Az,c]
    omega
  have E:c.tm=[]:=Fz.1 Ac;have ų:b.Au.take q=P.take q:=by have:=B6 (List.take q) o.d.J4;rwa [CK,BP Ac] at this
  have I:∀(h:q<P.length),Em P[q]=true:=λh=>by
   have C:(b.Au.take P.length)[q]'(by rw[Ax];omega)=P[q]:=by simp only[o.d.J4]
   rw[IH] at C;rw[<-C];exact h2
  have f:=I Ac;have h0:c.head≠0:=λe=>by have:=hd.has.1;omega
  have If:(∃h,c.Au=[h]/\AH [IW] h=true)\/(∃h d,c.Au=[h,d]/\AH [IW] h=true/\AH [I2] d=true):=by
   rw[M,ų];have s:∀{i:Item} {w:Ah},AH [w] i=true->w≠AW->Em i=false:=λh hw=>Zy (by simpa using C3 hw) h;cases o.d.pf with
   |body h o' a b'=>
    exfalso;have e:q=1:=by simp only[AJ,AZ] at G;omega
    subst e;simp only[JX,NF] at f;rw[s b' Az] at f;cases f
   |Ox h o' a b'=>
    have e:q=1:=by simp only[AJ,AZ] at G;omega
    subst e;exact .inl ⟨h,rfl,a⟩
   |head h d t a b' c'=>
    have e:q=1\/q=2:=by simp only[AJ,AZ] at G;omega
    rcases e with e|e
    .subst e;simp only[JX,NF] at f;rw[s b' Az] at f;cases f
    .subst e;exact .inr ⟨h,d,rfl,a,b'⟩
  have XU:c.Lh=false:=cm.fr;rcases If with⟨y,u,H⟩|⟨y,B,u,H,R⟩
  .have z:c.mode=6:=by
    rw[hm];show g.Io g.Au.length=6;rw[F,u,AQ,BS.Io];have e:g.D7 0=y:=by unfold BS.D7;rw[Aa (by rw[bf];simp[XU]),F,u];rfl
    rw[e,rL H,bh];simp only
    rw[Aa h0]
   refine⟨⟨cm,λ_=>hd,λ_=> .inr (.inr (.inr (.inr (.inl ⟨z,⟨y,u,H⟩,E⟩)))),λh=>Ac⟩,hne,?_,Ac,col,Ac⟩;rw[z];unfold fC;simp<;>omega
  .have A:c.mode=4:=by
    rw[hm];show g.Io g.Au.length=4;rw[F,u];show g.Io (1+1)=4;rw[BS.Io];have e:g.D7 1=B:=by unfold BS.D7;rw[Aa AB,F,u];rfl
    rw[e,rK R Ac]
   refine⟨⟨cm,λ_=>hd,λ_=> .inr (.inr (.inl ⟨A,⟨y,B,u,H,R⟩,E⟩)),λh=>Ac⟩,hne,?_,Ac,col,Ac⟩;rw[A];unfold fC;simp<;>omega
end
end Go.Am
end
