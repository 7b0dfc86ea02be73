/- Lemmas -/
import Derived.Test.YtffmdapalbecoaaGreatDoorO30
import Derived.Test.YtffmdapalbecoaaGreatDoorO28
set_option linter.all false
set_option maxRecDepth 100000
open List renaming length→zz
open Bool renaming false→zy,true→zo,eq_iff_iff→z3
open Nat renaming reduceLeDiff→zx,beq→z4,ble→z7,beq_eq→yz,ble_eq→yy
open Go.Am.IT renaming step→zw,run→zc
open Option renaming some→zu,none→zg
open Go.Am.Aa renaming tuple→zt,func→zr,bool→zn,str→zk,nilFunc→zi,int→zb,map→z1,agg→z5
open Go.Fn renaming func→zp
open UInt8 renaming toNat→zl
open Or renaming inl→zf,inr→ze
open Go.Am.BS renaming Hi→zd
section
end
section
end
section
end
section
namespace Go.Am
open Go
structure SW(h:Ah)(bi:Nat)(b:BS)(F:Nat->Prop)(si:Nat)(t:Fq)(av:Aa):Prop where
 pb:PB h bi b F
 sc:h[si]?=zu (.cells (Pt bi 0::Co t av))
 no:¬F si
section
variable{h h':Ah}{bi si:Nat}{b b':BS}{F F':Nat->Prop}{n o a:Nat}{t:Fq}{av:Aa}
def SW.after(w:SW h bi b F si t av)(p:PB h' bi b' F')(x:Du h F h' F'):SW h' bi b' F' si t av:=by
 have hl:=(Aq.1 w.sc).1;refine⟨p,by rw[x.old si hl w.no];exact w.sc,λhf=>?_⟩;obtain h1|h1:=x.Bu si hf
 .exact w.no h1
 .omega
def SW.C4(w:SW h bi b F si t av):A5 h zg (Pt si 0)=zu (Pt bi 0)/\A5 h (zu 12) (Pt si 1)=zu (z5 (Co t av))/\A5 h zg (Pt si 2)=zu (zk t.name)/\A5 h zg (Pt si 12)=zu (zb .i32 t.r)/\A5 h zg (Pt si 10)=zu (zn t.sc)/\A5 h zg (Pt bi 1)=zu (I b.CF)/\A5 h zg (Pt bi 4)=zu (I b.mode)/\A5 h zg (Pt bi 5)=zu (I b.RL)/\A5 h zg (Pt bi 7)=zu (I b.head)/\A5 h zg (Pt bi 8)=zu (I b.KP)/\A5 h zg (Pt bi 14)=zu (zn b.fs)/\A5 h zg (Pt bi 18)=zu (I b.sw)/\A5 h zg (Pt bi 19)=zu (zn b.stop):=by refine⟨by simp only[A5,w.sc];rfl,by simp only[A5,w.sc];rfl,by simp only[A5,w.sc];rfl,by simp only[A5,w.sc];rfl,by simp only[A5,w.sc];rfl,w.pb.C4⟩
def aLU{s:Ai}:AA (.Dk 1) [zk s]=zu (.sl 1 ([s].map Cr)):=D2 (ws:=[s]) rfl AH
section
variable(w:SW h bi b F si t av)
def uV(g:Gz b n o a)(s:Ai):BK cx 372 [Pt si 0,zk s] h (zn (b.has [s])) h:=by have l0:=w.C4;have c:=aCr w.pb g 1 (Cw (ws:=[s])) AH;simp only[Ad,nH,abS,l0,aLU,c];rfl
def aG3(g:Gz b n o a)(s ex:Ai):Lu h F 373 [Pt si 0,zk s,zk ex] (zt []) bi (b.GR s ex):=by have l0:=w.C4;let⟨_,h1,l,j,f,d⟩:=RI w.pb g ex;have w1:=w.after f d;have l1:=w1.C4;let⟨_,h2,F2,r2,e,c⟩:=aCq f (g.K5 C9) (Cw (ws:=[s])) AH;refine⟨_,_,?_,e,d.trans c⟩;simp only[Ad,nI,abS,l0,j,l1,r2,aLU]
def Ę(g:Gz b (n+4) o a)(ht:t.Sm)(hv:AL t.Aj av):Lu h F 247 [Pt si 0] (zt []) bi (b.block t):=by have l0:=w.C4;let⟨h1,l,j,f,d⟩:=J0 w.pb g;have w1:=w.after f d;have l1:=w1.C4;let⟨h2,F2,r2,e,c⟩:=Hw f g.BH ht hv;refine⟨_,_,?_,e,d.trans c⟩;simp[Ad,lQ,abS,l0,j,l1,r2]
end
def aQS(s:Ai):JN cx 370 [zk s] (zn (decide (s∈CZ))):=by
 rw[LY,nF];match s with
 |[]=>simp[CZ]
 |[a]=>simp[CZ]
 |[a,b]=>
  have e:decide ([a,b]∈CZ)=decide (a.toNat=104/\49<=b.toNat/\b.toNat<=54):=by simp only[CZ,AR,D1,L8,Fs,Np,<-PD];have g:zl 104=104/\zl 49=49/\zl 50=50/\zl 51=51/\zl 52=52/\zl 53=53/\zl 54=54:=Bf;simp only[g];rw[Ds];omega
  rw[e];have i1:((a.toNat:Int)=104)↔a.toNat=104:=Ab;have d:((49:Int)<=b.toNat)↔49<=b.toNat:=Ab;have i3:((b.toNat:Int)<=54)↔b.toNat<=54:=Ab;simp[i1,d,i3];by_cases h1:a.toNat=104<;>by_cases h2:49<=b.toNat<;>by_cases f:b.toNat<=54<;>simp[h1,h2,f]<;>omega
 |a::b::c::l=>simp[CZ];omega
def WJ(i:Item):i.row=[I i.node,I i.A7,zk i.name,zn i.NM]:=rfl
section
variable(w:SW h bi b F si t av)(g:Gz b (n+4) o a)(ht:t.Sm)(hv:AL t.Aj av)
def aQT:Lu h F 248 [Pt si 0] (zt []) bi (b.MC t):=by
 have m:=(aQS (DB b.BH.AI).name);unfold BS.MC;dsimp only;by_cases j:(DB b.BH.AI).A7=1
 .by_cases p:(DB b.BH.AI).name∈CZ;.rw[show AU CZ (DB b.BH.AI)=zo by simp[AU,j,p],Af rfl];rw[As p] at m;have l0:=w.C4;let⟨h1,u,k,c,e⟩:=J0 w.pb g;have w1:=w.after c e;have l1:=w1.C4;have l:=uQ c g.BH;let⟨h2,F2,r2,f,d⟩:=WE c g.BH;have i:=w1.after f d;have q:=i.C4;let⟨y,z,x,s,r⟩:=Hw f g.BH.IW ht hv;refine⟨_,_,?_,s,(e.trans d).trans r⟩;simp[Ad,T9,abS,l0,k,l1,l,r2,q,x,WJ,AE j,m.BM rfl rfl]
  .rw[show AU CZ (DB b.BH.AI)=zy by simp[AU,j,p],Ac AH];rw[Al p] at m;have l0:=w.C4;let⟨h1,u,k,c,e⟩:=J0 w.pb g;have w1:=w.after c e;have l1:=w1.C4;have l:=uQ c g.BH;let⟨h2,F2,r2,f,d⟩:=Hw c g.BH ht hv;refine⟨_,_,?_,f,e.trans d⟩;simp[Ad,T9,abS,l0,k,l1,l,r2,WJ,AE j,m.BM rfl rfl]
 .rw[show AU CZ (DB b.BH.AI)=zy by simp[AU,j],Ac AH];have l0:=w.C4;let⟨h1,u,k,c,e⟩:=J0 w.pb g;have w1:=w.after c e;have l1:=w1.C4;have l:=uQ c g.BH;let⟨h2,F2,r2,f,d⟩:=Hw c g.BH ht hv;refine⟨_,_,?_,f,e.trans d⟩;simp[Ad,T9,abS,l0,k,l1,l,r2,WJ,j]
def aQU:Lu h F 249 [Pt si 0] (zt []) bi (b.UO t):=by let⟨h1,r,p,k,e⟩:=Ę w g ht hv;have w1:=w.after k e;have l1:=w1.C4;let⟨r2,j,d⟩:=ē k zo;have f:=w1.after j d;have q:=f.C4;let⟨m,i,c⟩:=ME j zy;refine⟨_,_,?_,i,(e.trans d).trans c⟩;simp[Ad,lR,abS,p,l1,r2,q,m]
def aQV:Lu h F 261 [Pt si 0] (zt []) bi (b.Uw t):=by
 rw[BS.Uw];dsimp only;by_cases k:b.KP=0
 .by_cases d:b.Rs;.rw[Ac (by simp[k]),Af d];have l0:=w.C4;have c:=pD w.pb g;rw[As d] at c;let⟨h1,s,m,j,f⟩:=J0 w.pb g;have w1:=w.after j f;have l1:=w1.C4;let⟨h2,F2,r2,i,e⟩:=Hw j g.BH ht hv;have l:=w1.after i e;have p:=l.C4;refine⟨_,_,?_,i,f.trans e⟩;simp[Ad,RF,abS,l0,c,m,l1,r2,p,AE k,B3]
  .rw[Ac (by simp[k]),Ac d];have l0:=w.C4;have c:=pD w.pb g;rw[Al d] at c;let⟨h1,s,m,j,f⟩:=J0 w.pb g;have w1:=w.after j f;have l1:=w1.C4;let⟨h2,F2,r2,i,e⟩:=Hw j g.BH ht hv;have l:=w1.after i e;have p:=l.C4;let⟨v,r,q⟩:=aGX i (b.BH.M5 1);refine⟨_,_,?_,r,(f.trans e).trans q⟩;simp[Ad,RF,abS,l0,c,m,l1,r2,p,v,AE k,B3]
 .by_cases d:b.Rs;.rw[Ac (by simp[d]),Af d];have l0:=w.C4;have c:=pD w.pb g;rw[As d] at c;let⟨h1,s,m,j,f⟩:=J0 w.pb g;have w1:=w.after j f;have l1:=w1.C4;let⟨h2,F2,r2,i,e⟩:=Hw j g.BH ht hv;have l:=w1.after i e;have p:=l.C4;refine⟨_,_,?_,i,f.trans e⟩;simp[Ad,RF,abS,l0,c,m,l1,r2,p,k,B3]
  .rw[Af ⟨k,d⟩];have l0:=w.C4;have c:=pD w.pb g;rw[Al d] at c;refine⟨_,_,?_,w.pb,.refl⟩;simp[Ad,RF,abS,l0,c,k,B3]
end
def aQW(w:SW h bi b F si t av)(g:Gz b (n+4*a+4) o a)(ht:t.Sm)(hv:AL t.Aj av):Lu h F 262 [Pt si 0] (zt []) bi (b.Q0 t):=by
 unfold BS.Q0;dsimp only;cases v:b.has [aXw] with
 |true=>have g1:Gz (b.GR aXw []) (n+4+4*a) o a:=g.GR.dn Ab;rw[Af rfl];have l0:=w.C4;have i:=uV w g aXw;rw[v] at i;let⟨h1,z,q,l,e⟩:=aG3 w g aXw [];have w1:=w.after l e;have l1:=w1.C4;let⟨h2,F2,r2,k,d⟩:=Dv l g1;have f:=w1.after k d;have r:=f.C4;let⟨A,B,p,j,c⟩:=Hw k g1.A6 ht hv;have m:=f.after j c;have l3:=m.C4;let⟨y,u,s⟩:=ME j zy;refine⟨_,_,?_,u,((e.trans d).trans c).trans s⟩;simp[Ad,XY,abS,l0,i,q,l1,r2,r,p,l3,y]
 |false=>have g1:Gz b (n+4+4*a) o a:=g.dn Ab;rw[Ac AH];have l0:=w.C4;have i:=uV w g aXw;rw[v] at i;let⟨h1,z,q,l,e⟩:=Dv w.pb g1;have w1:=w.after l e;have l1:=w1.C4;let⟨h2,F2,r2,k,d⟩:=Hw l g1.A6 ht hv;have f:=w1.after k d;have r:=f.C4;let⟨p,j,c⟩:=ME k zy;refine⟨_,_,?_,j,(e.trans d).trans c⟩;simp[Ad,XY,abS,l0,i,q,l1,r2,r,p]
def aG4(w:SW h bi b F si t av)(g:Gz b (n+4*a+5) o a)(ht:t.Sm)(hv:AL t.Aj av):Lu h F 250 [Pt si 0] (zt []) bi (b.fmt t):=by have g1:Gz b (n+5+4*a) o a:=g.dn Ab;have l0:=w.C4;let⟨h1,l,j,f,d⟩:=Dv w.pb g1;have w1:=w.after f d;have l1:=w1.C4;let⟨h2,F2,r2,e,c⟩:=Đ f g1.A6 ht hv;refine⟨_,_,?_,e,d.trans c⟩;simp[Ad,lS,abS,l0,j,l1,r2]
def aG5(w:PB h bi b F)(g:Gz b n o a)(x:Int):∃r,Lu h F 377 [Pt bi 3,I x] r bi {b with AW:=BS.IY b.AW x}:=by
 obtain⟨i,f,c,tt,G,w,hc,rfl⟩:=w;have Sk:=g.rm.AW;have l3:=w.l3;let⟨fs,Gp,SI⟩:=hc;have HB:zz fs=zz b.AW:=by rw[<-Gp,Ao]
 have d:=f41 w.tQ SI Ab x;rw[Uj,Gp] at d;by_cases k:D8 x b.AW<0
 .have e:BS.IY b.AW x=b.AW:=by rw[BS.IY];rw[Af k]
  refine⟨ff,h,Bu bi G,?_,⟨i,f,c,tt,G,?_,⟨fs,?_,SI⟩,rfl⟩,.refl⟩;.rw[Ad,X5];simp[abS,d,AE k]
  .rw[e];exact w
  .rw[e];exact Gp
 .have hlt:(D8 x b.AW).toNat<zz fs:=by let⟨p,hp,e,_⟩:=GZ (n:=x) (l:=b.AW) Ab;omega
  let⟨u,r2,hu⟩:=aJR (h:=h) SI hlt Ab;have he:((D8 x b.AW).toNat:Int)=D8 x b.AW:=Ab;rw[he] at r2;have w':=w.KC (u:=u) (l:=BS.IY b.AW x);have vO:B4 (BS.IY b.AW x) u:=⟨Bg fs (D8 x b.AW).toNat,by rw[BS.IY];rw[Ac k,<-Gp];unfold Bg;simp[FM,IP],hu⟩;refine⟨zn zo,_,_,?_,⟨i,f,u,tt,G,w',vO,rfl⟩,Bd⟩;simp[Ad,X5,abS,d,k,l3,r2,w.st (k:=3) (v0:=c) rfl (Dp.cells hu)]
def aQX(w:SW h bi b F si t av)(g:Gz b (n+4*a+5) o a)(ht:t.Sm)(hv:AL t.Aj av):Lu h F 251 [Pt si 0] (zt []) bi (b.BW t):=by have g1:Gz b (n+1+4+4*a) o a:=g.dn Ab;have l0:=w.C4;let⟨h1,z,u,p,f⟩:=Dv w.pb g1;have w1:=w.after p f;have l1:=w1.C4;let⟨h2,F2,r2,m,e⟩:=Hw p g1.A6 ht hv;have j:=w1.after m e;have v:=j.C4;let⟨x,y,s,l,d⟩:=đ m (g1.A6.Ey ht);have i:=j.after l d;have l3:=i.C4;let⟨r,k,c⟩:=ME l zy;refine⟨_,_,?_,k,((f.trans e).trans d).trans c⟩;simp[Ad,lT,abS,l0,u,l1,r2,v,s,l3,r]
def aQY(w:SW h bi b F si t av)(g:Gz b (n+8*(4*(o+a+8)+10)+8*a+100) o a)(ht:t.Sm)(hv:AL t.Aj av):Lu h F 264 [Pt si 0] (zt []) bi (b.uO t):=by
 have g0:Gz b (n+5+4*(a+8)+8*(4*(o+a+8)+10)+4*a) o a:=g.dn Ab;have g1:=g0.A6;unfold BS.uO;dsimp only;cases u:b.A6.has [aXE] with
 |true=>simp[BR];have l0:=w.C4;let⟨h1,z,k,i,d⟩:=Dv w.pb g0;have w1:=w.after i d;have l1:=w1.C4;have e:=uV w1 g1 aXE;rw[u] at e;let⟨h2,F2,r2,f,c⟩:=uP i g1 aXE;have j:=w1.after f c;have s:=j.C4;let⟨B,D,y,r,m⟩:=Dv f g1.CI;have p:=j.after r m;have l3:=p.C4;let⟨A,C,x,q,l⟩:=Đ r g1.CI.A6 ht hv;refine⟨_,_,?_,q,((d.trans c).trans m).trans l⟩;simp[Ad,X0,abS,l0,k,l1,e,r2,s,y,l3,x]
 |false=>simp[CA,EV];have l0:=w.C4;let⟨h1,z,k,i,d⟩:=Dv w.pb g0;have w1:=w.after i d;have l1:=w1.C4;have e:=uV w1 g1 aXE;rw[u] at e;let⟨h2,F2,r2,f,c⟩:=Đ i (g1.dn (n':=n+5) Ab) ht hv;refine⟨_,_,?_,f,d.trans c⟩;simp[Ad,X0,abS,l0,k,l1,e,r2]
def aLV(w:PB h bi b F)(g:Gz b n o a):∃x r u,A5 h zg (Pt bi 0)=zu (Pt x 0)/\BK cx 162 [Pt x 0,I b.CF] h (zt [z5 r,I 0]) (h++u)/\zz r=13/\r.getD 10 .nilIface= zn (b.a.nd b.CF).Cs:=by obtain⟨f,i,c,tt,G,w,hc,rfl⟩:=w;have l0:=w.l0;let⟨n',m',ps,e⟩:=w.w.pa;obtain⟨r,u,d,K,V,rfl,k,j⟩:=aGe (x:=b.CF) e g.rm.Wt (g.rm.Wt.Be g.ok.ok _);rw[Af g.ok.CF.1] at d;exact⟨f,_,u,l0,d,rfl,rfl⟩
def aQZ(w:SW h bi b F si t av)(g:Gz b (n+4) o a)(ht:t.Sm)(hv:AL t.Aj av):Lu h F 265 [Pt si 0] (zt []) bi (b.Pv t):=by
 let⟨x,r,u,lt,rn,KA,LU⟩:=aLV w.pb g;have z:=w.C4;have C:SW (h++u) bi b F si t av:=w.after w.pb.HY ⟨AH,λi hi _=>Ak hi,λ_ hf=> zf hf⟩;have B:Du h F (h++u) F:=⟨AH,λi hi _=>Ak hi,λ_ hf=> zf hf⟩;have key:∀(w:SW (h++u) bi b F si t av),∃h' F',W cx (B8 cx 265 [Pt si 0]) (λx vs h1=>x= .ret/\vs=[zt []]/\h1=h') h/\PB h' bi (b.Pv t) F'/\Du (h++u) F h' F':=by
  intro w;unfold BS.Pv;dsimp only;cases A:(b.a.nd b.CF).Cs with
  |true=>rw[A] at LU;simp only[BR];have l0:=w.C4;let⟨h1,G,q,l,e⟩:=Hw w.pb g ht hv;have w1:=w.after l e;have l1:=w1.C4;let⟨r2,k,d⟩:=ME l zy;have f:=w1.after k d;have s:=f.C4;let⟨p,j,c⟩:=Lv k 9;have m:=f.after j c;have l3:=m.C4;refine⟨_,_,?_,j,(e.trans d).trans c⟩;simp only[X1,abS,z,lt,rn,KA,LU,l0,q,l1,r2,s,p]
  |false=>rw[A] at LU;simp only[CA,EV];have l0:=w.C4;let⟨h1,G,q,l,e⟩:=J0 w.pb g;have w1:=w.after l e;have l1:=w1.C4;let⟨h2,F2,r2,k,d⟩:=Hw l g.BH ht hv;have f:=w1.after k d;have s:=f.C4;let⟨p,j,c⟩:=ME k zy;have m:=f.after j c;have l3:=m.C4;let⟨E,y,v⟩:=Lv j 9;refine⟨_,_,?_,y,((e.trans d).trans c).trans v⟩;simp only[X1,abS,z,lt,rn,KA,LU,l0,q,l1,r2,s,p,l3,E]
 let⟨h',F',r',p',x'⟩:=key C;exact⟨h',F',Ad.2 r',p',B.trans x'⟩
def aG6(h:Ah)(F:Nat->Prop)(si:Nat)(f:FuncId)(args:List Aa)(r:Aa)(bi:Nat)(b':BS):Prop:=∃h' F',BK cx f args h r h'/\PB h' bi b' F'/\Du h (λi=>F i\/i=si) h' (λi=>F' i\/i=si)
def Du.ę(x:Du h F h' F'):Du h (λi=>F i\/i=si) h' (λi=>F' i\/i=si):=
 ⟨x.len,λi hi hn=>x.old i hi λhf=>hn (zf hf),λi hi=>by
  obtain hi|hi:=hi
  .rcases x.Bu i hi with h1|h1
   .exact zf (zf h1)
   .exact ze h1
  .exact zf (ze hi)⟩
def Lu.KZ{f:FuncId}{args:List Aa}{r:Aa}(d:Lu h F f args r bi b'):aG6 h F si f args r bi b':=by let⟨h1,i,e,g,c⟩:=d;exact⟨h1,i,e,g,c.ę⟩
def aG7(i:Item)(s:Ai)(h:Ah):BK cx 374 [z5 i.row,zk s] h (zn (AU [s] i)) h:=by
 simp[Ad,nJ,BD,WJ];refine⟨λh1=>?_,λh1=>?_⟩;.simp[AU,h1]
 .simp[AU,h1]
def Ě(w:SW h bi b F si t av):BK cx 375 [Pt si 0] h (zt [I (Dc b.AI 1).node,zn b.Ij]) h:=by
 have l0:=w.C4;have d:=aCs w.pb 1;have r2:=aW w.pb;have c:=aG7 (Dc b.AI 1) aXD h;rw[WJ] at d c;simp[Ad,nK,abS,l0,d,r2,c];refine⟨λh1=>?_,λh1=>?_⟩
 .have:2<=zz b.AI:=by omega
  simp[BS.Ij,this]
 .have:¬2<=zz b.AI:=by omega
  simp[BS.Ij,this]
def aG8:Pw aYD pX:=WH Bx
def aG9:Pw [108,105] [[108,105]]:=WH Bx
def mz:Pw aYI P0:=WH Bx
def aQ0(w:SW h bi b F si t av)(g:Gz b (n+4) o a)(ht:t.Sm)(hv:AL t.Aj av):Lu h F 257 [Pt si 0] (zt []) bi (b.uM t):=by
 have ho:=g.rm.AI;let⟨D,E,y⟩:=ME w.pb zy;have w1:=w.after E y;have l0:=w.C4;have l1:=w1.C4;have g1:Gz {b with fs:=zy} (n+4) o a:=g.eq rfl rfl rfl rfl rfl;have ln:=aW w1.pb;have IJ:Ev cx 257 [Pt si 0] h λr h'=>r= zt []/\∃F',PB h' bi (b.uM t) F'/\Du h F h' F':=by
  unfold Ev BS.uM;generalize{b with fs:=zy}=c at*;rw[lV];have e0:(c.AI.length:Int)<=900000000:=by have:=g1.rm.AI;omega
  by_cases x:t.name=[108,105]
  .obtain⟨ws,ĺ⟩:∃ws,ws=(if t.name=[108,105] then[[108,105]] else pX):=⟨_,rfl⟩;have hw:Pw [108,105] ws:=by rw[ĺ,Af x];exact aG9
   rw[<-ĺ];clear ĺ;simp only[abS,l0,l1,D,AE x,B3,ln,C0 ((c.AI.length:Int)) 1];generalize put h bi 14 ff=hs at*;refine Dr (i:=0) (λn:Nat=>[I ((n:Int)-1)]) (λn h1=>n<=zz c.AI/\c.AI.reverse.find? (zd ws)=(c.AI.take n).reverse.find? (zd ws)/\h1=hs) (λn=>n) (λn h1=>∃F',PB h1 bi (c.EU ws) F'/\Du hs F h1 F') (zz c.AI) rfl ⟨Ae _,by rw[Bt],rfl⟩ ?_ ?_
   .rintro n h1 ⟨hn,ha,rfl⟩;cases n with
    |zero=>
     have e:c.EU ws=c:=by unfold BS.EU;rw[ha];rfl
     simp only[abS,(Ab:¬(0:Int)<=((0:Nat):Int)-1)];exact .He 0 rfl ⟨F,by rw[e];exact w1.pb,.refl⟩
    |succ n=>
     have hlt:n<zz c.AI:=Ab;have i1:((n+1:Nat):Int)-1=(n:Int):=Ab;have r2:=aCs w1.pb (n:Int);rw[FG hlt] at r2;rw[M9 hlt,DZ] at ha;generalize hi:c.AI[n]=i at*;rw[WJ] at r2;have k:=bl hw i.name;have l:=bl mz i.name;have f:=aBE i.A7 i.name;have sub:=C0 ((n:Int)) 1;by_cases p:AU ws i=zo
     .have d:i.A7=1/\i.name∈ws:=by simpa[AU] using p
      rw[As d.2] at k;let⟨h2,F2,s,u,q⟩:=aG3 w1 g1 i.name i.name;have e:c.EU ws=c.GR i.name i.name:=by unfold BS.EU;rw[ha];simp[zd,p]
      simp only[abS,↓reduceIte,l1,i1,MW,r2,AE d.1,k.BM rfl rfl,s];exact .He (n+1) (by rw[i1]) ⟨F2,by rw[e];exact u,q⟩
     .have uH:AU ws i=zy:=zv p
      have B:zd ws i=(C1 i&& !(AU P0 i)):=by simp[zd,uH]
      rw[B] at ha;have stop:C1 i=zo->AU P0 i=zy->c.EU ws=c:=λh1 h2=>by unfold BS.EU;rw[ha,h1,h2];simp[uH]
      have go:(C1 i&& !(AU P0 i))=zy->c.AI.reverse.find? (zd ws)=(c.AI.take n).reverse.find? (zd ws):=λh1=>by rw[ha,h1]
      by_cases d:i.A7=1
      .have A:i.name∉ws:=λh=>p (by simp[AU,d,h]);rw[Al A] at k;by_cases j:C1 i=zo
       .have cU:Dh i.A7 i.name=zo:=j;rw[cU] at f;by_cases m:i.name∈P0;.rw[As m] at l;simp only[abS,↓reduceIte,l1,i1,MW,r2,AE d,k.BM rfl rfl,l.BM rfl rfl,f.BM rfl rfl,sub];exact .next n rfl ⟨Ab,go (by simp[AU,d,m]),rfl⟩ Ab
        .rw[Al m] at l;simp only[abS,↓reduceIte,l1,i1,MW,r2,AE d,k.BM rfl rfl,l.BM rfl rfl,f.BM rfl rfl,sub];exact .He (n+1) (by rw[i1]) ⟨F,by rw[stop j (by simp[AU,m])];exact w1.pb,.refl⟩
       .have cU:Dh i.A7 i.name=zy:=by simpa[C1] using j
        rw[cU] at f;simp only[abS,↓reduceIte,l1,i1,MW,r2,AE d,k.BM rfl rfl,f.BM rfl rfl,sub];exact .next n rfl ⟨Ab,go (by simp[show C1 i=zy from cU]),rfl⟩ Ab
      .by_cases j:C1 i=zo;.have cU:Dh i.A7 i.name=zo:=j;rw[cU] at f;simp only[abS,↓reduceIte,l1,i1,MW,r2,d,f.BM rfl rfl,sub];exact .He (n+1) (by rw[i1]) ⟨F,by rw[stop j (by simp[AU,d])];exact w1.pb,.refl⟩
       .have cU:Dh i.A7 i.name=zy:=by simpa[C1] using j
        rw[cU] at f;simp only[abS,↓reduceIte,l1,i1,MW,r2,d,f.BM rfl rfl,sub];exact .next n rfl ⟨Ab,go (by simp[show C1 i=zy from cU]),rfl⟩ Ab
   .rintro n h1 ⟨F2,z,v⟩;let⟨G,C,s,u,q⟩:=Ę (w1.after z v) g1.EU ht hv;simp only[BD,s];exact⟨_,rfl,rfl,C,u,(y.trans v).trans q⟩
  .obtain⟨ws,ĺ⟩:∃ws,ws=(if t.name=[108,105] then[[108,105]] else pX):=⟨_,rfl⟩;have hw:Pw aYD ws:=by rw[ĺ,Ac x];exact aG8
   rw[<-ĺ];clear ĺ;simp only[abS,l0,l1,D,x,B3,ln,C0 ((c.AI.length:Int)) 1];generalize put h bi 14 ff=hs at*;refine Dr (i:=0) (λn:Nat=>[I ((n:Int)-1)]) (λn h1=>n<=zz c.AI/\c.AI.reverse.find? (zd ws)=(c.AI.take n).reverse.find? (zd ws)/\h1=hs) (λn=>n) (λn h1=>∃F',PB h1 bi (c.EU ws) F'/\Du hs F h1 F') (zz c.AI) rfl ⟨Ae _,by rw[Bt],rfl⟩ ?_ ?_
   .rintro n h1 ⟨hn,ha,rfl⟩;cases n with
    |zero=>
     have e:c.EU ws=c:=by unfold BS.EU;rw[ha];rfl
     simp only[abS,(Ab:¬(0:Int)<=((0:Nat):Int)-1)];exact .He 0 rfl ⟨F,by rw[e];exact w1.pb,.refl⟩
    |succ n=>
     have hlt:n<zz c.AI:=Ab;have i1:((n+1:Nat):Int)-1=(n:Int):=Ab;have r2:=aCs w1.pb (n:Int);rw[FG hlt] at r2;rw[M9 hlt,DZ] at ha;generalize hi:c.AI[n]=i at*;rw[WJ] at r2;have k:=bl hw i.name;have l:=bl mz i.name;have f:=aBE i.A7 i.name;have sub:=C0 ((n:Int)) 1;by_cases p:AU ws i=zo
     .have d:i.A7=1/\i.name∈ws:=by simpa[AU] using p
      rw[As d.2] at k;let⟨h2,F2,s,u,q⟩:=aG3 w1 g1 i.name i.name;have e:c.EU ws=c.GR i.name i.name:=by unfold BS.EU;rw[ha];simp[zd,p]
      simp only[abS,↓reduceIte,l1,i1,MW,r2,AE d.1,k.BM rfl rfl,s];exact .He (n+1) (by rw[i1]) ⟨F2,by rw[e];exact u,q⟩
     .have uH:AU ws i=zy:=zv p
      have B:zd ws i=(C1 i&& !(AU P0 i)):=by simp[zd,uH]
      rw[B] at ha;have stop:C1 i=zo->AU P0 i=zy->c.EU ws=c:=λh1 h2=>by unfold BS.EU;rw[ha,h1,h2];simp[uH]
      have go:(C1 i&& !(AU P0 i))=zy->c.AI.reverse.find? (zd ws)=(c.AI.take n).reverse.find? (zd ws):=λh1=>by rw[ha,h1]
      by_cases d:i.A7=1
      .have A:i.name∉ws:=λh=>p (by simp[AU,d,h]);rw[Al A] at k;by_cases j:C1 i=zo
       .have cU:Dh i.A7 i.name=zo:=j;rw[cU] at f;by_cases m:i.name∈P0;.rw[As m] at l;simp only[abS,↓reduceIte,l1,i1,MW,r2,AE d,k.BM rfl rfl,l.BM rfl rfl,f.BM rfl rfl,sub];exact .next n rfl ⟨Ab,go (by simp[AU,d,m]),rfl⟩ Ab
        .rw[Al m] at l;simp only[abS,↓reduceIte,l1,i1,MW,r2,AE d,k.BM rfl rfl,l.BM rfl rfl,f.BM rfl rfl,sub];exact .He (n+1) (by rw[i1]) ⟨F,by rw[stop j (by simp[AU,m])];exact w1.pb,.refl⟩
       .have cU:Dh i.A7 i.name=zy:=by simpa[C1] using j
        rw[cU] at f;simp only[abS,↓reduceIte,l1,i1,MW,r2,AE d,k.BM rfl rfl,f.BM rfl rfl,sub];exact .next n rfl ⟨Ab,go (by simp[show C1 i=zy from cU]),rfl⟩ Ab
      .by_cases j:C1 i=zo;.have cU:Dh i.A7 i.name=zo:=j;rw[cU] at f;simp only[abS,↓reduceIte,l1,i1,MW,r2,d,f.BM rfl rfl,sub];exact .He (n+1) (by rw[i1]) ⟨F,by rw[stop j (by simp[AU,d])];exact w1.pb,.refl⟩
       .have cU:Dh i.A7 i.name=zy:=by simpa[C1] using j
        rw[cU] at f;simp only[abS,↓reduceIte,l1,i1,MW,r2,d,f.BM rfl rfl,sub];exact .next n rfl ⟨Ab,go (by simp[show C1 i=zy from cU]),rfl⟩ Ab
   .rintro n h1 ⟨F2,z,v⟩;let⟨G,C,s,u,q⟩:=Ę (w1.after z v) g1.EU ht hv;simp only[BD,s];exact⟨_,rfl,rfl,C,u,(y.trans v).trans q⟩
 obtain⟨r,h',hr,rfl,F',p',x'⟩:=IJ.ret;exact⟨h',F',hr,p',x'⟩
def aHa(w:PB h bi b F)(g:Gz b n o a)(nm:Ai):BK cx 329 [Pt bi 3,zk nm] h (I (DT nm b.AW)) h/\(0<=DT nm b.AW->∃v p,A5 h zg (Pt bi 3)=zu v/\AA (.EE 3) [v,I (DT nm b.AW)]=zu p/\∃q,AA (.K8 0) [p]=zu q/\A5 h zg q=zu (I (b.AW.getD (DT nm b.AW).toNat B5.zero).node)):=by
 obtain⟨j,i,c,tt,G,w,hc,rfl⟩:=w;have Sk:=g.rm.AW;let⟨fs,Gp,SI⟩:=hc;have HB:zz fs=zz b.AW:=by rw[<-Gp,Ao]
 have d:=aJL w.tQ SI Ab nm;rw[oL,Gp] at d;refine⟨d,λh0=>?_⟩;let⟨k,e,f⟩:=OH h0;rw[f,A3];have hk:k<zz fs:=Ab;have ea:=AX.BG (k:= .i64) SI hk;have hg:b.AW.getD k B5.zero=fs[k].c:=by rw[AS,<-Gp,Cc,An hk];rfl
 exact⟨c,_,w.l3,ea,_,rfl,by rw[hg];rfl⟩
def aQ1(w:SW h bi b F si t av)(g:Gz b (n+8*(4*(o+8)+10)+4*(a+8)+5) o a)(ht:t.Sm)(hv:AL t.Aj av):Lu h F 263 [Pt si 0] (zt []) bi (b.uN t):=by
 let⟨m,C⟩:=aHa w.pb g [97];unfold BS.uN BS.Ni;dsimp only;by_cases u:DT [97] b.AW<0;.rw[Af u];have l0:=w.C4;let⟨h1,I,f,d,c⟩:=aG4 w (g.dn (n':=n+4*a+5) Ab) ht hv;have w1:=w.after d c;have l1:=w1.C4;refine⟨_,_,?_,d,c⟩;simp[Ad,XZ,BD,AQ,Wn,l0,f,l1,m,(Ab:¬(0:Int)<=DT [97] b.AW)]
 .rw[Ac u];let⟨v,p,H,G,q,E,D⟩:=C Ab;have g0:Gz b (n+4*(a+8)+5+8*(4*(o+8)+10)) o a:=g.dn Ab;generalize(b.AW.getD (DT [97] b.AW).toNat B5.zero).node=nd at*;have l0:=w.C4;let⟨h1,I,f,d,c⟩:=uP w.pb g0 [97];have w1:=w.after d c;have l1:=w1.C4;let⟨_,h2,F2,r2,s,k⟩:=aG5 d g0.CI nd;have l:=w1.after s k;have B:=l.C4;let⟨_,K,M,z,A,j⟩:=Ē s (g0.CI.sub (lo:=(b.CI [97]).AI) (lc:=BS.IY (b.CI [97]).AW nd) (lt:=(b.CI [97]).tm) (A4 _) NT (Ae _)) nd;have e:=l.after A j;have l3:=e.C4;let⟨J,L,y,r,i⟩:=aG4 e (g0.CI.sub (lo:=CN nd (b.CI [97]).AI) (lc:=BS.IY (b.CI [97]).AW nd) (lt:=(b.CI [97]).tm) Jf NT (Ae _)) ht hv;have x:=e.after r i;have l4:=x.C4;refine⟨_,_,?_,r,((c.trans k).trans j).trans i⟩;simp[Ad,XZ,BD,AQ,Wn,l0,f,l1,r2,B,z,l3,y,l4,m,(Ab:(0:Int)<=DT [97] b.AW),H,G,E,D]
def uW{x:A9}{l:List A9}:BS.Ik (x::l)=if x.name=aYm then decide (FI x.value=aYd) else BS.Ik l:=by
 unfold BS.Ik;rw[DZ];by_cases h:x.name=aYm;.simp[h]
 .simp[h]
def aQ2(ht:t.Sm)(hv:AL t.Aj av)(h:Ah):BK cx 371 [z5 (Co t av)] h (zn (BS.Ik t.Aj)) h:=by
 have cF:A0=140737488355328:=rfl;have DR:AX 3 (t.Aj.map A9.row) av:=hv;have e:=AX.CK DR;have hb:=ht.Aj.1;have hcl:FI aYd=aYd:=QG Bf;simp[Ad,nG,BD,e];refine Bj (λn:Nat=>[ff,I (n:Int)]) (λn h1=>n<=zz t.Aj/\h1=h/\BS.Ik t.Aj=BS.Ik (t.Aj.drop n)) (λn=>zz t.Aj-n) 0 rfl ⟨AV _,rfl,rfl⟩ ?_;rintro n h1 ⟨hn,rfl,ha⟩;obtain hlt|Et:=AP n (zz t.Aj)
 .have d:=AX.BG (k:= .i64) DR hlt;have Qw:=(ht.Aj.2 _ (AN hlt)).2;have c:=aF7 t.Aj[n].value aYd Ab Bf;rw[hcl] at c;rw[AG hlt,uW] at ha;rw[A9.row] at d;simp[abS,(Ab:(n:Int)<(zz t.Aj:Int)),d,c.BM rfl rfl,By n];refine⟨λh2=>?_,λh2=>?_⟩;.rw[ha,Af h2]
  .rw[Ac h2] at ha;exact AJ.next (n+1) rfl ⟨hlt,rfl,ha⟩ Ab
 .rw[AT Et] at ha;simp[abS,(Ab:¬(n:Int)<(zz t.Aj:Int)),ha];rfl
section
variable(w:SW h bi b F si t av)
def SW.aCw(nm:Ai):Cy h 1 (Pt si 2) (zk nm)=zu (put h si 2 (zk nm))/\SW (put h si 2 (zk nm)) bi b F si {t with name:=nm} av/\Du h (λi=>F i\/i=si) (put h si 2 (zk nm)) (λi=>F i\/i=si):=by have hs:At h si 2 (zk t.name):=⟨_,w.sc,rfl⟩;refine⟨hs.store (u:= zk nm) rfl,⟨w.pb.Dj λi hi=>Ce λe=>w.no (e▸hi),?_,w.no⟩,⟨by rw[Jw];exact Ae _,λi _ hn=>Ce λe=>hn (ze e),λ_ h=> zf h⟩⟩;rw[HV w.sc];rfl
def aQ3(g:Gz b (n+4*a+4) o a)(ht:t.Sm)(hv:AL t.Aj av):aG6 h F si 252 [Pt si 0] (zt []) bi (b.empty t):=by
 have A:Gz b (n+4) o a:=g.dn Ab;have g1:Gz b (n+4+4*a) o a:=g.dn Ab;rw[BS.empty];by_cases q:t.name=[104,114];.rw[Af q];refine Lu.KZ ?_;have l0:=w.C4;let⟨h1,v,m,f,d⟩:=J0 w.pb A;have w1:=w.after f d;have l1:=w1.C4;let⟨h2,F2,r2,e,c⟩:=bm f A.BH ht hv;have j:=w1.after e c;have p:=j.C4;let⟨s,l,k⟩:=ME e zy;have r:=j.after l k;have l3:=r.C4;refine⟨_,_,?_,l,(d.trans c).trans k⟩;simp[Ad,LL,abS,l0,m,l1,r2,p,s,AE q]
 rw[Ac q];by_cases i:t.name∈QY
 .rw[Af i];refine Lu.KZ ?_;have l0:=w.C4;let⟨h1,v,m,f,d⟩:=bm w.pb A ht hv;have w1:=w.after f d;have l1:=w1.C4;let⟨r2,e,c⟩:=ME f b.fs;have j:=w1.after e c;have p:=j.C4;simp[QY,AR,D1,L8] at i;by_cases y:t.name=aYS
  .skip
   refine⟨_,_,?_,e,d.trans c⟩;simp[Ad,LL,abS,l0,m,l1,r2,q,AE y]
  by_cases z:t.name=aYL;.refine⟨_,_,?_,e,d.trans c⟩;simp[Ad,LL,abS,l0,m,l1,r2,q,y,AE z]
  .have E:t.name=aYT:=by simpa[y,z] using i
   refine⟨_,_,?_,e,d.trans c⟩;simp[Ad,LL,abS,l0,m,l1,r2,q,y,z,AE E]
 rw[Ac i];simp[QY,AR,D1,L8,Ly] at i;by_cases u:t.name=aXP
 .rw[Af u];refine Lu.KZ ?_;cases kf:b.fs with
  |true=>have l0:=w.C4;let⟨h1,v,m,f,d⟩:=Dv w.pb g1;have w1:=w.after f d;have l1:=w1.C4;have C:=aQ2 ht hv h1;let⟨h2,F2,r2,e,c⟩:=bm f g1.A6 ht hv;have j:=w1.after e c;have p:=j.C4;let⟨s,l,k⟩:=ME e (BS.Ik t.Aj);have r:=j.after l k;have l3:=r.C4;rw[kf] at l0;refine⟨_,_,?_,l,(d.trans c).trans k⟩;simp[Ad,LL,abS,l0,m,l1,C,r2,p,s,q,i.1,i.2.1,i.2.2,AE u]
  |false=>have l0:=w.C4;let⟨h1,v,m,f,d⟩:=Dv w.pb g1;have w1:=w.after f d;have l1:=w1.C4;let⟨h2,F2,r2,e,c⟩:=bm f g1.A6 ht hv;have j:=w1.after e c;have p:=j.C4;let⟨s,l,k⟩:=ME e zy;have r:=j.after l k;have l3:=r.C4;rw[kf] at l0;refine⟨_,_,?_,l,(d.trans c).trans k⟩;simp[Ad,LL,abS,l0,m,l1,r2,p,s,q,i.1,i.2.1,i.2.2,AE u]
 rw[Ac u];by_cases x:t.name=aXH;.rw[Af x];have D:=w.C4;let⟨s0,w,B⟩:=w.aCw aYi;have FX:({t with name:=aYi}:Fq).Sm:=ht.rn Bf;have l0:=w.C4;let⟨h1,v,m,f,d⟩:=Dv w.pb g1;have w1:=w.after f d;have l1:=w1.C4;let⟨h2,F2,r2,e,c⟩:=bm f g1.A6 FX hv;have j:=w1.after e c;have p:=j.C4;let⟨s,l,k⟩:=ME e zy;have r:=j.after l k;have l3:=r.C4;refine⟨_,_,?_,l,B.trans ((d.trans c).trans k).ę⟩;simp only[Ad,LL,abS,D,q,i.1,i.2.1,i.2.2,u,AE x,s0,l0,m,l1,r2,p,s]
 .rw[Ac x];refine Lu.KZ ?_;have l0:=w.C4;let⟨h1,v,m,f,d⟩:=Dv w.pb g1;have w1:=w.after f d;have l1:=w1.C4;let⟨h2,F2,r2,e,c⟩:=bm f g1.A6 ht hv;have j:=w1.after e c;have p:=j.C4;let⟨s,l,k⟩:=ME e zy;have r:=j.after l k;refine⟨_,_,?_,l,(d.trans c).trans k⟩;simp only[Ad,LL,abS,l0,m,l1,r2,p,s,q,i.1,i.2.1,i.2.2,u,x]
def aQ4(g:Gz b (n+4*a+4) o a)(ht:t.Sm)(hv:AL t.Aj av):Lu h F 254 [Pt si 0] (zt []) bi (b.raw t):=by
 have x:Gz b (n+4) o a:=g.dn Ab;have g1:Gz b.BH (n+4+4*a) o a:=g.BH.dn Ab;rw[BS.raw];by_cases l:t.name=aXF;.rw[Af l];have l0:=w.C4;let⟨h1,z,k,e,d⟩:=Ę w x ht hv;have w1:=w.after e d;have l1:=w1.C4;let⟨r2,i,f⟩:=aQJ e 5;have j:=w1.after i f;have r:=j.C4;refine⟨_,_,?_,i,d.trans f⟩;simp[Ad,Pj,abS,l0,k,l1,r2,AE l]
 rw[Ac l];by_cases m:t.name=aXG;.rw[Af m];have l0:=w.C4;let⟨h1,z,k,e,d⟩:=aV w.pb x ht hv 2;have w1:=w.after e d;have l1:=w1.C4;let⟨r2,i,f⟩:=ē e zo;have j:=w1.after i f;have r:=j.C4;let⟨y,q,p⟩:=ME i zy;have u:=j.after q p;have l3:=u.C4;refine⟨_,_,?_,q,(d.trans f).trans p⟩;simp[Ad,Pj,abS,l0,k,l1,r2,r,y,l,AE m]
 rw[Ac m];by_cases s:t.name=aYa;.rw[Af s];have l0:=w.C4;let⟨h1,z,k,e,d⟩:=J0 w.pb g;have w1:=w.after e d;have l1:=w1.C4;let⟨h2,F2,r2,i,f⟩:=Dv e g1;have j:=w1.after i f;have r:=j.C4;let⟨y,q,p⟩:=ME i zy;have u:=j.after q p;have l3:=u.C4;let⟨E,G,D,B,A⟩:=aV q (g1.A6.eq (c:={b.BH.A6 with fs:=zy}) rfl rfl rfl rfl rfl) ht hv 3;refine⟨_,_,?_,B,((d.trans f).trans p).trans A⟩;simp[Ad,Pj,abS,l0,k,l1,r2,r,y,l3,D,l,m,AE s]
 rw[Ac s];by_cases v:t.name=aXW;.rw[Af v];have l0:=w.C4;let⟨k,e,d⟩:=ME w.pb zy;have w1:=w.after e d;have l1:=w1.C4;let⟨h2,F2,r2,i,f⟩:=aV e (x.eq (c:={b with fs:=zy}) rfl rfl rfl rfl rfl) ht hv 3;refine⟨_,_,?_,i,d.trans f⟩;simp[Ad,Pj,abS,l0,k,l1,r2,l,m,s,AE v]
 .rw[Ac v];have l0:=w.C4;let⟨h1,z,k,e,d⟩:=aV w.pb x ht hv 3;refine⟨_,_,?_,e,d⟩;simp[Ad,Pj,abS,l0,k,l,m,s,v]
end
def uX{nm:Ai}{l:List A9}{sp:Int}:(b.D9 nm l sp).mode=b.mode:=by
 rw[BS.D9];split
 .rename_i hs;have e:∀p,(b.Ex nm l sp p).mode=b.mode:=λp=>by rw[BS.Ex];rw[Af hs]
  simp[e]
 .rfl
def fY:∀{l:List B5} {b:BS},(BS.Ih l b).2.mode=b.mode
 |[],b=>rfl
 |e::l,b=>by rw[BS.Ih];simp only;rw[fY,uX]
section
variable(w:SW h bi b F si t av)
def aQ5(g:Gz b (n+4*a+4) o a)(ht:t.Sm)(hv:AL t.Aj av):Lu h F 266 [Pt si 0] (zt []) bi (b.Q1 t):=by
 have g1:Gz b (n+4+4*a) o a:=g.dn Ab;have em:(b.A6.Ey t).mode=b.mode:=by rw[BS.Ey];rw[uX];rw[BS.A6];simp only;exact fY
 rw[BS.Q1];by_cases x:b.mode=9;.rw[Af (zf x)];have l0:=w.C4;let⟨h1,B,u,p,f⟩:=Dv w.pb g1;have w1:=w.after p f;have l1:=w1.C4;let⟨h2,F2,r2,m,e⟩:=Hw p g1.A6 ht hv;have j:=w1.after m e;have v:=j.C4;let⟨s,l,d⟩:=ME m zy;have i:=j.after l d;have l3:=i.C4;simp[em] at l3;let⟨r,k,c⟩:=Lv l 17;refine⟨_,_,?_,k,((f.trans e).trans d).trans c⟩;simp[Ad,NP,abS,l0,u,l1,r2,v,s,l3,r,AE x]
 by_cases y:b.mode=11;.rw[Af (ze (zf y))];have l0:=w.C4;let⟨h1,B,u,p,f⟩:=Dv w.pb g1;have w1:=w.after p f;have l1:=w1.C4;let⟨h2,F2,r2,m,e⟩:=Hw p g1.A6 ht hv;have j:=w1.after m e;have v:=j.C4;let⟨s,l,d⟩:=ME m zy;have i:=j.after l d;have l3:=i.C4;simp[em] at l3;let⟨r,k,c⟩:=Lv l 17;refine⟨_,_,?_,k,((f.trans e).trans d).trans c⟩;simp[Ad,NP,abS,l0,u,l1,r2,v,s,l3,r,x,AE y]
 by_cases z:b.mode=13;.rw[Af (ze (ze (zf z)))];have l0:=w.C4;let⟨h1,B,u,p,f⟩:=Dv w.pb g1;have w1:=w.after p f;have l1:=w1.C4;let⟨h2,F2,r2,m,e⟩:=Hw p g1.A6 ht hv;have j:=w1.after m e;have v:=j.C4;let⟨s,l,d⟩:=ME m zy;have i:=j.after l d;have l3:=i.C4;simp[em] at l3;let⟨r,k,c⟩:=Lv l 17;refine⟨_,_,?_,k,((f.trans e).trans d).trans c⟩;simp[Ad,NP,abS,l0,u,l1,r2,v,s,l3,r,x,y,AE z]
 by_cases A:b.mode=14;.rw[Af (ze (ze (ze (zf A))))];have l0:=w.C4;let⟨h1,B,u,p,f⟩:=Dv w.pb g1;have w1:=w.after p f;have l1:=w1.C4;let⟨h2,F2,r2,m,e⟩:=Hw p g1.A6 ht hv;have j:=w1.after m e;have v:=j.C4;let⟨s,l,d⟩:=ME m zy;have i:=j.after l d;have l3:=i.C4;simp[em] at l3;let⟨r,k,c⟩:=Lv l 17;refine⟨_,_,?_,k,((f.trans e).trans d).trans c⟩;simp[Ad,NP,abS,l0,u,l1,r2,v,s,l3,r,x,y,z,AE A]
 by_cases C:b.mode=15;.rw[Af (ze (ze (ze (ze C))))];have l0:=w.C4;let⟨h1,B,u,p,f⟩:=Dv w.pb g1;have w1:=w.after p f;have l1:=w1.C4;let⟨h2,F2,r2,m,e⟩:=Hw p g1.A6 ht hv;have j:=w1.after m e;have v:=j.C4;let⟨s,l,d⟩:=ME m zy;have i:=j.after l d;have l3:=i.C4;simp[em] at l3;let⟨r,k,c⟩:=Lv l 17;refine⟨_,_,?_,k,((f.trans e).trans d).trans c⟩;simp[Ad,NP,abS,l0,u,l1,r2,v,s,l3,r,x,y,z,A,AE C]
 .rw[Ac (by simp[x,y,z,A,C])];have l0:=w.C4;let⟨h1,B,u,p,f⟩:=Dv w.pb g1;have w1:=w.after p f;have l1:=w1.C4;let⟨h2,F2,r2,m,e⟩:=Hw p g1.A6 ht hv;have j:=w1.after m e;have v:=j.C4;let⟨s,l,d⟩:=ME m zy;have i:=j.after l d;have l3:=i.C4;simp[em] at l3;let⟨r,k,c⟩:=Lv l 16;refine⟨_,_,?_,k,((f.trans e).trans d).trans c⟩;simp[Ad,NP,abS,l0,u,l1,r2,v,s,l3,r,x,y,z,A,C]
def aQ6(g:Gz b (n+4*a+4) o a)(ht:t.Sm)(hv:AL t.Aj av):Lu h F 258 [Pt si 0] (zt []) bi (b.Q2 t):=by
 have g1:Gz b (n+4+4*a) o a:=g.dn Ab;rw[BS.Q2];cases r:AU [aXR] (DB b.AI) with
 |true=>rw[Af rfl];have l0:=w.C4;have l:=uQ w.pb g;have e:=aG7 (DB b.AI) aXR h;rw[r] at e;let⟨h1,v,k,i,d⟩:=WE w.pb g1;have w1:=w.after i d;have l1:=w1.C4;let⟨h2,F2,r2,f,c⟩:=Dv i g1.IW;have j:=w1.after f c;have q:=j.C4;let⟨x,y,u,p,m⟩:=Hw f g1.IW.A6 ht hv;refine⟨_,_,?_,p,(d.trans c).trans m⟩;simp[Ad,XX,abS,l0,l,e,k,l1,r2,q,u]
 |false=>rw[Ac AH];have l0:=w.C4;have l:=uQ w.pb g;have e:=aG7 (DB b.AI) aXR h;rw[r] at e;let⟨h1,v,k,i,d⟩:=Dv w.pb g1;have w1:=w.after i d;have l1:=w1.C4;let⟨h2,F2,r2,f,c⟩:=Hw i g1.A6 ht hv;refine⟨_,_,?_,f,d.trans c⟩;simp[Ad,XX,abS,l0,l,e,k,l1,r2]
def aQ7(g:Gz b (n+4) o a)(ht:t.Sm)(hv:AL t.Aj av):Lu h F 255 [Pt si 0] (zt []) bi (b.aU t):=by
 rw[BS.aU];cases p:b.has [aX3] with
 |true=>
  rw[Af rfl];by_cases l:t.name=[114,112];.rw[Af (zf l)];have l0:=w.C4;have d:=uV w g aX3;rw[p] at d;let⟨_,h1,q,j,e,c⟩:=RI w.pb g aYx;have w1:=w.after e c;have l1:=w1.C4;let⟨h2,F2,r2,i,f⟩:=Hw e (g.K5 C9) ht hv;refine⟨_,_,?_,i,c.trans f⟩;simp[Ad,RD,abS,l0,d,j,l1,r2,AE l]
  by_cases m:t.name=[114,116];.rw[Af (ze m)];have l0:=w.C4;have d:=uV w g aX3;rw[p] at d;let⟨_,h1,q,j,e,c⟩:=RI w.pb g aYx;have w1:=w.after e c;have l1:=w1.C4;let⟨h2,F2,r2,i,f⟩:=Hw e (g.K5 C9) ht hv;refine⟨_,_,?_,i,c.trans f⟩;simp[Ad,RD,abS,l0,d,j,l1,r2,l,AE m]
  .rw[Ac (by simp[l,m])];have l0:=w.C4;have d:=uV w g aX3;rw[p] at d;let⟨_,h1,q,j,e,c⟩:=RI w.pb g [];have w1:=w.after e c;have l1:=w1.C4;let⟨h2,F2,r2,i,f⟩:=Hw e (g.K5 C9) ht hv;refine⟨_,_,?_,i,c.trans f⟩;simp[Ad,RD,abS,l0,d,j,l1,r2,l,m]
 |false=>rw[Ac AH];have l0:=w.C4;have d:=uV w g aX3;rw[p] at d;let⟨h1,q,j,e,c⟩:=Hw w.pb g ht hv;refine⟨_,_,?_,e,c⟩;simp[Ad,RD,abS,l0,d,j]
def aQ8(g:Gz b (n+4*a+4) o a)(ht:t.Sm)(hv:AL t.Aj av):Lu h F 256 [Pt si 0] (zt []) bi (b.MD t):=by
 have g1:Gz b (n+4+4*a) o a:=g.dn Ab;unfold BS.MD;dsimp only;by_cases m:t.name=aYF
 .rw[Af m];cases c:t.sc with
  |true=>rw[Af rfl];have l0:=w.C4;rw[c] at l0;let⟨h1,u,l,i,e⟩:=Dv w.pb g1;have w1:=w.after i e;have l1:=w1.C4;rw[c] at l1;let⟨h2,F2,r2,f,d⟩:=pB i g1.A6 ht hv 3;have k:=w1.after f d;have j:=k.C4;rw[c] at j;let⟨v,x,s,q,p⟩:=WE f (g1.A6.L9 ht.Aj ht.name);refine⟨_,_,?_,q,(e.trans d).trans p⟩;simp[Ad,RE,abS,l0,l,l1,r2,j,s,AE m]
  |false=>rw[Ac AH];have l0:=w.C4;rw[c] at l0;let⟨h1,u,l,i,e⟩:=Dv w.pb g1;have w1:=w.after i e;have l1:=w1.C4;rw[c] at l1;let⟨h2,F2,r2,f,d⟩:=pB i g1.A6 ht hv 3;have k:=w1.after f d;have j:=k.C4;rw[c] at j;refine⟨_,_,?_,f,e.trans d⟩;simp[Ad,RE,abS,l0,l,l1,r2,j,AE m]
 .rw[Ac m];cases c:t.sc with
  |true=>rw[Af rfl];have l0:=w.C4;rw[c] at l0;let⟨h1,u,l,i,e⟩:=Dv w.pb g1;have w1:=w.after i e;have l1:=w1.C4;rw[c] at l1;let⟨h2,F2,r2,f,d⟩:=pB i g1.A6 ht hv 2;have k:=w1.after f d;have j:=k.C4;rw[c] at j;let⟨v,x,s,q,p⟩:=WE f (g1.A6.L9 ht.Aj ht.name);refine⟨_,_,?_,q,(e.trans d).trans p⟩;simp[Ad,RE,abS,l0,l,l1,r2,j,s,m]
  |false=>rw[Ac AH];have l0:=w.C4;rw[c] at l0;let⟨h1,u,l,i,e⟩:=Dv w.pb g1;have w1:=w.after i e;have l1:=w1.C4;rw[c] at l1;let⟨h2,F2,r2,f,d⟩:=pB i g1.A6 ht hv 2;have k:=w1.after f d;have j:=k.C4;rw[c] at j;refine⟨_,_,?_,f,e.trans d⟩;simp[Ad,RE,abS,l0,l,l1,r2,j,m]
def aQ9(g:Gz b (n+1000) o a)(ht:t.Sm)(hv:AL t.Aj av):Lu h F 259 [Pt si 0] (zt []) bi (b.Nh t):=by
 rw[BS.Nh];by_cases j:b.Rs;.rw[Af (zf j)];have l0:=w.C4;have d:=pD w.pb g;rw[As j] at d;refine⟨_,_,?_,w.pb,.refl⟩;simp[Ad,Pk,abS,l0,d]
 by_cases p:b.AI=[];.rw[Af (ze p)];have l0:=w.C4;have d:=pD w.pb g;rw[Al j] at d;have i:=aW w.pb;refine⟨_,_,?_,w.pb,.refl⟩;simp only[Ad,Pk,BD,Wn,l0,d,i,show((zz b.AI:Int)=0)=True from AE (by rw[p];rfl)]
 have wh:¬(zz b.AI:Int)=0:=λe=>p (DC Ab);rw[Ac (by simp[j,p])];by_cases m:t.name=aXv;.rw[Af m];have l0:=w.C4;have d:=pD w.pb g;rw[Al j] at d;have i:=aW w.pb;have f:=aCs w.pb 0;let⟨h1,y,q,l,k⟩:=mq w.pb g ht hv (Dc b.AI 0).node;have w1:=w.after l k;have l1:=w1.C4;refine⟨_,_,?_,l,k⟩;simp only[Ad,Pk,abS,l0,d,i,f,q,wh,AE m,WJ,BN]
 rw[Ac m];cases u:b.Ij with
 |true=>rw[Af rfl];have l0:=w.C4;have d:=pD w.pb g;rw[Al j] at d;have i:=aW w.pb;have f:=Ě w;rw[u] at f;let⟨q,l,k⟩:=ME w.pb zy;have w1:=w.after l k;have l1:=w1.C4;let⟨h2,F2,r2,s,r⟩:=mq l (g.eq (c:={b with fs:=zy}) rfl rfl rfl rfl rfl) ht hv (Dc b.AI 1).node;refine⟨_,_,?_,s,k.trans r⟩;simp only[Ad,Pk,abS,l0,d,i,f,q,l1,r2,wh,m]
 |false=>rw[Ac AH];have l0:=w.C4;have d:=pD w.pb g;rw[Al j] at d;have i:=aW w.pb;have f:=Ě w;rw[u] at f;refine⟨_,_,?_,w.pb,.refl⟩;simp[Ad,Pk,abS,l0,d,i,f,wh,m]
def aRa(g:Gz b (n+1004) o a)(ht:t.Sm)(hv:AL t.Aj av)(i:¬t.st [aXv]):Lu h F 245 [Pt si 0] (zn (b.Kh t).2) bi (b.Kh t).1:=by have l0:=w.C4;let⟨h1,j,f,d,c⟩:=aQQ w.pb g ht hv (λe=>absurd e i);refine⟨_,_,?_,d,c⟩;simp[Ad,lO,abS,l0,f]
end
def aRb(x:Aa):BK cx 253 [x] h ff h:=by simp[Ad,lU,BD]
def aLW{c n:Nat}{m:Option Nat}{ps:List PN}{A:Ar}{e x:Int}(w:PA h c n m ps A)(j:N4 A)(ok:E1 A e)(hx:A.has x):
  ∃h' JK,BK cx 376 [Pt c 0,I x] h (I 0) h'/\PA h' c n m JK (A.cut x)/\Du h (λi=>i∈GH c n m ps) h' (λi=>i∈GH c n m JK):=by
 have d:=S3 (x:=x) w;rw[Af hx] at d;let⟨h1,Yd,g,w1,f⟩:=aDH w j ok hx;refine⟨h1,Yd,?_,w1,f⟩;simp[Ad,nL,abS,Hn,d,g,B3]
def aLX(w:PB h bi b F)(g:Gz b n o a){x:Int}(hx:b.a.has x):∃d,A5 h zg (Pt bi 0)=zu (Pt d 0)/\Lu h F 376 [Pt d 0,I x] (I 0) bi {b with a:=b.a.cut x}:=by
 obtain⟨d,i,c,tt,G,w,hc,rfl⟩:=w;obtain⟨h',G',r,w',x'⟩:=w.step (R:=λh'=>BK cx 376 [Pt d 0,I x] h (I 0) h') λn m ps f=>by let⟨h1,Yd,r,w1,e⟩:=aLW f g.rm.Wt g.ok.ok hx;exact⟨h1,n,m,Yd,r,w1,e⟩
 exact⟨d,w.l0,h',_,r,⟨d,i,c,tt,G',w',hc,rfl⟩,x'⟩
def aRc(w:SW h bi b F si t av)(g:Gz b (n+4) o a)(ht:t.Sm)(hv:AL t.Aj av):Lu h F 260 [Pt si 0] (zt []) bi (b.JE t):=by
 rw[BS.JE];cases e:b.Ij with
 |false=>rw[Af (zf rfl)];have l0:=w.C4;have c:=Ě w;rw[e] at c;refine⟨_,_,?_,w.pb,.refl⟩;simp[Ad,Ua,abS,l0,c]
 |true=>
 obtain l|l:=Bool.eq_false_or_eq_true b.fs
 rotate_left;.rw[Af (ze l)];have l0:=w.C4;have c:=Ě w;rw[e] at c;rw[l] at l0;refine⟨_,_,?_,w.pb,.refl⟩;simp[Ad,Ua,abS,l0,c]
 .rw[Ac (by simp[l])];have hi:=g.ok.op _ (Q4 e);have l0:=w.C4;rw[l] at l0;have c:=Ě w;rw[e] at c;let⟨J,G,h1,u,D,x,v⟩:=aLX w.pb g hi.1;have w1:=w.after x v;have g1:Gz {b with a:=b.a.cut (Dc b.AI 1).node} (n+4) o a:=⟨g.ok.JA (Vo g.ok.ok hi.1 (by rw[hi.2.1];decide)) ZG,g.rm.JA Ux,g.AI,g.AW⟩;have aV9:2<=zz b.AI:=by rw[BS.Ij] at e;simp[Bq,Cd] at e;exact e.1
  have IJ:Ev cx 260 [Pt si 0] h λr h'=>r= zt []/\∃F',PB h' bi {({b with a:=b.a.cut (Dc b.AI 1).node,AI:=b.AI.take 1}:BS).Ey t with mode:=20} F'/\Du h F h' F':=by
   simp[Ev,Ua,abS,l0,c,G,D];refine Dr (i:=0) (λn:Nat=>[]) (λn h2=>1<=n/\n<=zz b.AI/\∃F2,PB h2 bi {b with a:=b.a.cut (Dc b.AI 1).node,AI:=b.AI.take n} F2/\Du h1 u h2 F2) (λn=>n) (λn h2=>∃F2,PB h2 bi {b with a:=b.a.cut (Dc b.AI 1).node,AI:=b.AI.take 1} F2/\Du h1 u h2 F2) (zz b.AI) rfl ⟨Ab,Ae _,u,by rwa[Bt],.refl⟩ ?_ ?_
   .rintro j h2 ⟨ND,hn,F2,d,f⟩;have p:=w1.after d f;have q:=p.C4;have ln:=aW d;have y:(b.AI.take j).length=j:=by rw[Ax];omega
    simp[y] at ln;have g2:Gz {b with a:=b.a.cut (Dc b.AI 1).node,AI:=b.AI.take j} (n+4) (o+1) a:=(g1.le Ab Ab (Ae _)).K5 (CB _ _);by_cases hk:j=1;.subst hk;simp[abS,q,ln,(Bf:¬(1:Int)<((1:Nat):Int))];exact .He 1 rfl ⟨F2,d,f⟩
    .let⟨H,z,s,k,m⟩:=WE d g2;have I:({b with a:=b.a.cut (Dc b.AI 1).node,AI:=b.AI.take j}:BS).IW={b with a:=b.a.cut (Dc b.AI 1).node,AI:=b.AI.take (j-1)}:=by rw[BS.IW];simp[y];rw[Ac Ab,Fj,Ct Ab]
     rw[I] at k;simp[abS,q,ln,(Ab:(1:Int)<(j:Int)),s];exact .next (j-1) rfl ⟨Ab,Ab,z,k,f.trans m⟩ Ab
   .rintro j h2 ⟨F2,d,f⟩;have p:=w1.after d f;have q:=p.C4;have g2:Gz {b with a:=b.a.cut (Dc b.AI 1).node,AI:=b.AI.take 1} (n+4) o a:=g1.K5 (CB _ _);let⟨H,z,s,k,m⟩:=Hw d g2 ht hv;have B:=p.after k m;have l3:=B.C4;let⟨C,E,A⟩:=Lv k 20;simp only[abS,q,s,l3,C];exact⟨_,rfl,rfl,_,E,((v.trans f).trans m).trans A⟩
  obtain⟨r,h',hr,rfl,F',hp,hx⟩:=IJ.ret;exact⟨h',F',hr,hp,hx⟩
end
def kr(p:Ai×Aa):Aa×Aa:=(zk p.1,p.2)
def kf(s:Ai):List (Ai×Aa)->Option Aa
 |[]=>zg
 |(t,v)::l=>if s=t then zu v else kf s l
def kp(s:Ai)(v:Aa):List (Ai×Aa)->List (Ai×Aa)
 |[]=>[(s,v)]
 |(t,u)::l=>if s=t then(s,v)::l else(t,u)::kp s v l
def aEb{s t:Ai}{v:Aa}:∀{l:List (Ai×Aa)},kf t (kp s v l)=if t=s then zu v else kf t l
 |[]=>rfl
 |(x,u)::l=>by
  rw[kp];by_cases h:s=x;.rw[Af h];unfold kf;subst h;split<;>rfl
  .rw[Ac h];unfold kf;rw[aEb];by_cases h1:t=x;.subst h1;rw[Af rfl,Af rfl,Ac (DY h)]
   .rw[Ac h1,Ac h1]
def uY{s:Ai}:∀{l:List (Ai×Aa)},Tl s (l.map kr)=zu (kf s l)
 |[]=>rfl
 |(x,u)::l=>by
  simp[Bm,kr,Tl,kf];split;.rfl
  .exact uY
def m_{s:Ai}{v:Aa}:∀{l:List (Ai×Aa)},Od s v (l.map kr)=zu ((kp s v l).map kr)
 |[]=>rfl
 |(x,u)::l=>by
  simp[Bm,kr,Od,kp];split;.rfl
  .rw[show(List.map kr l)=l.map kr from rfl,m_];rfl
def fZ{s:Ai}:∀{l:List (Ai×Aa)} {i:Nat},kf s l=zg->Sy s (l.map kr) i=zu zg
 |[],_,_=>rfl
 |(x,u)::l,i,h=>by
  rw[kf] at h;by_cases e:s=x;.rw[Af e] at h;cases h
  .rw[Ac e] at h;simp[Bm,kr,Sy,Ac e];exact fZ h
def ě{s t:Ai}{v:Aa}:∀{l:List (Ai×Aa)},kf s l=zg->kf t (l++[(s,v)])=if t=s then zu v else kf t l
 |[],_=>rfl
 |(x,u)::l,h=>by
  rw[kf] at h;by_cases e:s=x;.rw[Af e] at h;cases h
  .rw[Ac e] at h;simp[CQ,kf];rw[ě h];by_cases a:t=x;.subst a;rw[Af rfl,Af rfl,Ac (DY e)]
   .rw[Ac a,Ac a]
def KM(h:Ah)(id:Nat)(d:Ai->Option Aa):Prop:=∃l,h[id]?=zu (.map (l.map kr))/\∀s,kf s l=d s
def Fr(id:Nat)(h h':Ah):Prop:=zz h<=zz h'/\∀i,i<zz h->i≠id->h'[i]?=h[i]?
def Fr.trans{id:Nat}{h h1 h2:Ah}(a:Fr id h h1)(b:Fr id h1 h2):Fr id h h2:=⟨Bv a.1 b.1,λi hi hn=>(b.2 i (JQ hi a.1) hn).trans (a.2 i hi hn)⟩
def Fr.set{id:Nat}{h:Ah}{o:DG}:Fr id h (h.set id o):=⟨AH,λi _ hn=>Au (DY hn)⟩
def Fr.HY{id:Nat}{h u:Ah}:Fr id h (h++u):=⟨AH,λi hi _=>Ak hi⟩
section
variable{h:Ah}{id:Nat}{d:Ai->Option Aa}{s:Ai}{v:Aa}
def KM.lt(w:KM h id d):id<zz h:=let⟨_,hl,_⟩:=w;(Aq.1 hl).1
def KM.HY{u:Ah}(w:KM h id d):KM (h++u) id d:=let⟨l,hl,hd⟩:=w;⟨l,by rwa[Ak w.lt],hd⟩
section
variable(w:KM h id d)(s:Ai)
def KM.set(v:Aa):∃h1,RV h (z1 (zu id)) (zk s) v=zu h1/\KM h1 id (λt=>if t=s then zu v else d t)/\Fr id h h1:=by have hlt:=w.lt;let⟨l,hl,hd⟩:=w;refine⟨h.set id (.map ((kp s v l).map kr)),by simp[RV,hl,m_,B6],⟨kp s v l,by rw[AY hlt],λt=>?_⟩,.set⟩;simp[aEb,hd]
def KM.get:Qb h zi zy (z1 (zu id)) (zk s)=zu ((d s).getD zi):=by let⟨l,hl,hd⟩:=w;simp[Qb,UR,hl,uY,B6,hd];cases d s<;>rfl
def KM.entry(hs:d s=zg)(v:Aa):∃h0 h1 n v0,EF (.gO zi) h [z1 (zu id),zk s]=zu (h0,zt [v0,I n])/\EF .OR h0 [z1 (zu id),I n,v]=zu (h1,zn zo)/\KM h1 id (λt=>if t=s then zu v else d t)/\Fr id h h1:=by
 have hlt:=w.lt;let⟨l,hl,hd⟩:=w;have h0:kf s l=zg:=(hd s).trans hs;refine⟨h.set id (.map (l.map kr++[(zk s,zi)])),h.set id (.map ((l++[(s,v)]).map kr)),(l.map kr).length,zi,?_,?_,⟨l++[(s,v)],by rw[AY hlt],λt=>?_⟩,.set⟩;.simp only[EF,Xt,hl,fZ h0,B6]
 .simp only[EF,Tn,AY hlt,A3,Int.natCast_nonneg,BR,Bz (Ae _),Dl,Hc,vL,BV _ _ (Ae _),Ml,BL,Bm,Da,kr]
 .rw[ě h0];simp[hd]
end
def lk:List (List Ai×Aa)->Ai->Option Aa
 |[],_=>zg
 |(ws,v)::l,s=>if s∈ws then zu v else lk l s
def KM.eq{a:Ai->Option Aa}(w:KM h id d)(e:∀s,d s=a s):KM h id a:=let⟨l,hl,hd⟩:=w;⟨l,hl,λs=>(hd s).trans (e s)⟩
def KM.push{L:List (List Ai×Aa)}(w:KM h id (λt=>if t=s then zu v else lk L t)):KM h id (lk (([s],v)::L)):=w.eq λt=>by simp[lk,AM]
def UC{l:Ai}{ws:List Ai}{L:List (List Ai×Aa)}(x:Pw l ws)(w:KM h id (lk L))(fv:Aa):∃h1,BK cx 244 [z1 (zu id),zk l,fv] h (zt []) h1/\KM h1 id (lk ((ws,fv)::L))/\Fr id h h1:=by
 have hf:=x.few;have IJ:Ev cx 244 [z1 (zu id),zk l,fv] h λr h1=>r= zt []/\KM h1 id (lk ((ws,fv)::L))/\Fr id h h1:=by
  unfold Ev;rw[lN];have hv:IL ws (.sl 1 (ws.map Cr)):=Cw;have hl:(ws.map Cr).length=zz ws:=Ao ..;simp only[BD,aCt x h,AX.CK hv];refine Dr (i:=0) (λn:Nat=>[I (n:Int)]) (λn h1=>n<=zz ws/\KM h1 id (λs=>if s∈ws.take n then zu fv else lk L s)/\Fr id h h1) (λn=>zz ws-n) (λn h1=>KM h1 id (lk ((ws,fv)::L))/\Fr id h h1) 0 rfl ⟨AV _,w.HY.eq λs=>AH,.HY⟩ ?_ ?_
  .rintro n h1 ⟨hn,a,f1⟩;by_cases hlt:n<zz ws
   .have f:(ws.map Cr)[n]'(by rw[hl];exact hlt)=[zk ws[n]]:=by simp[Cr]
    let⟨h2,c,e,f2⟩:=a.set ws[n] fv;simp[BD,Wn,(Ab:(n:Int)<(ws.length:Int)),AX.EE hv (show n<(ws.map Cr).length by rw[hl];exact hlt),f,c,By n];exact .next (n+1) rfl ⟨hlt,e.eq λs=>by
     simp only[AB hlt,Ay,AM];by_cases b:s=ws[n];.simp[b]
     .simp[b],f1.trans f2⟩ Ab
   .simp only[abS,(Ab:¬(n:Int)<(zz ws:Int))];exact .He n rfl ⟨a.eq λs=>by rw[AF Ab];rfl,f1⟩
  .rintro n h1 ⟨a,f1⟩;simp only[BD];exact⟨_,rfl,rfl,a,f1⟩
 obtain⟨r,h1,hr,rfl,a,f1⟩:=IJ.ret;exact⟨h1,hr,a,f1⟩
def qf(k:Nat):Aa:= zr (zp 369) [] [.CH [zr (zp k) [] []]]
def Py(k:Nat)(h:Ah):BK cx 246 [zr (zp k) [] []] h (qf k) h:=by simp[Ad,lP,BD,qf]
def aRd{k:Nat}{x:Aa}{h':Ah}(hk:k<=99999)(r:BK cx k [x] h (zt []) h'):BK cx 369 [x,.CH [zr (zp k) [] []]] h ff h':=by simp[Ad,nE,BD,Dw,BB,Af hk,r]
def Fh:List (List Ai×Aa):=[(Ng,zr (zp 245) [] []),(S8,qf 247),(CZ,qf 248),(QW,qf 249),(RQ,qf 250),(Ny,qf 251),(S9,qf 252),(QX,zr (zp 253) [] []),(bk,qf 254),(aS,qf 255),(Xq,qf 256),(aT,qf 257),(Uv,qf 258),(Ta,qf 259),([aXy],qf 260),([aXX],qf 261),([aXw],qf 262),([[97]],qf 263),([aXE],qf 264),([aXA],qf 265),([aXN],qf 266)]
def aRe(h:Ah):∃h1,BK cx 120 [] h (z1 (zu (zz h))) h1/\KM h1 (zz h) (lk Fh.reverse)/\Fr (zz h) h h1:=by
 have Y:KM (h++[.map []]) (zz h) (lk []):=⟨[],AH,λs=>rfl⟩;have e0:Fr (zz h) h (h++[.map []]):= .HY;let⟨h1,I,X,e1⟩:=UC (WH Bx:Pw aXr Ng) Y (zr (.func 245) [] []);try dsimp only at I
 let⟨h2,r2,W,e2⟩:=UC (WH Bx:Pw aXt S8) X (qf 247);try dsimp only at r2
 let⟨h3,H,V,e3⟩:=UC (WH Bx:Pw aXL CZ) W (qf 248);try dsimp only at H
 let⟨h4,G,U,e4⟩:=UC (WH Bx:Pw aX8 QW) V (qf 249);try dsimp only at G
 let⟨h5,F,T,e5⟩:=UC (WH Bx:Pw aXz RQ) U (qf 250);try dsimp only at F
 let⟨h6,E,S,e6⟩:=UC (WH Bx:Pw aXK Ny) T (qf 251);try dsimp only at E
 let⟨h7,D,R,e7⟩:=UC (WH Bx:Pw aXO S9) S (qf 252);try dsimp only at D
 let⟨h8,C,Q,e8⟩:=UC (WH Bx:Pw aXu QX) R (zr (.func 253) [] []);try dsimp only at C
 let⟨h9,B,P,e9⟩:=UC (WH Bx:Pw aX2 bk) Q (qf 254);try dsimp only at B
 let⟨Yc,uD,KT,A⟩:=UC (WH Bx:Pw aYN aS) P (qf 255);try dsimp only at uD
 let⟨iT,c,Lf,z⟩:=UC (WH Bx:Pw aYz Xq) KT (qf 256);try dsimp only at c
 let⟨h12,b,L5,y⟩:=UC (WH Bx:Pw aY1 aT) Lf (qf 257);try dsimp only at b
 let⟨h13,Ā,Mq,x⟩:=UC (WH Bx:Pw aXJ Uv) L5 (qf 258);try dsimp only at Ā
 let⟨h14,a,Nb,w⟩:=UC (WH Bx:Pw aYU Ta) Mq (qf 259);try dsimp only at a
 let⟨O,h15,M,K,l,t15,OJ,u⟩:=Nb.entry aXy Bx (qf 260);replace OJ:=OJ.push;let⟨h16,k,PO,t⟩:=OJ.set aXX (qf 261);replace PO:=PO.push;let⟨h17,j,QU,r⟩:=PO.set aXw (qf 262);replace QU:=QU.push;let⟨N,h18,L,J,i,t18,Sq,q⟩:=QU.entry [97] Bx (qf 263);replace Sq:=Sq.push;let⟨h19,g,Ur,p⟩:=Sq.set aXE (qf 264);replace Ur:=Ur.push;let⟨Z,f,Wz,o⟩:=Ur.set aXA (qf 265);replace Wz:=Wz.push;let⟨m,e,oX,n⟩:=Wz.set aXN (qf 266);replace oX:=oX.push;refine⟨m,?_,oX,((((((((((((((((((((e0.trans e1).trans e2).trans e3).trans e4).trans e5).trans e6).trans e7).trans e8).trans e9).trans A).trans z).trans y).trans x).trans w).trans u).trans t).trans r).trans q).trans p).trans o).trans n⟩;simp[Ad,j2,abS,I,r2,Py 247 _,H,Py 248 _,G,Py 249 _,F,Py 250 _,E,Py 251 _,D,Py 252 _,C,B,Py 254 _,uD,Py 255 _,c,Py 256 _,b,Py 257 _,Ā,Py 258 _,a,Py 259 _,l,t15,Py 260 _,k,Py 261 _,j,Py 262 _,i,t18,Py 263 _,g,Py 264 _,f,Py 265 _,e,Py 266 _]
def Ĝ:∀{L M:List (List Ai×Aa)},lk (L++M) s=(lk L s).or (lk M s)
 |[],M=>by simp[lk]
 |(ws,v)::L,M=>by
  simp[CQ,lk];split;.rfl
  .exact Ĝ
def nc:∀{L:List (List Ai×Aa)},(∀g∈L,s∉g.1)->lk L s=zg
 |[],_=>rfl
 |(ws,v)::L,h=>by simp[lk];rw[Ac (h (ws,v) (.head _))];exact nc λg hg=>h g (.tail _ hg)
def ĝ:∀{L:List (List Ai×Aa)},L.Pairwise (λa b=>∀x∈a.1,x∉b.1)->lk L.reverse s=lk L s
 |[],_=>rfl
 |(ws,v)::L,h=>by
  cases h with
  |cons h1 h2=>
   simp[E5,Ĝ,ĝ h2,lk];by_cases c:s∈ws;.rw[Af c,Af c,nc λg hg=>h1 g hg s c];rfl
   .rw[Ac c,Ac c];cases lk L s<;>rfl
def Ğ:lk Fh.reverse s=lk Fh s:=ĝ Bx
end
section
variable{h h':Ah}{bi si:Nat}{b b':BS}{F F':Nat->Prop}{n o a:Nat}{t:Fq}{av:Aa}
def NU(bi:Nat)(t:Fq)(av:Aa):DG:= .cells (Pt bi 0::Co t av)
def SW.new(w:PB h bi b F)(t:Fq)(av:Aa):SW (h++[NU bi t av]) bi b F (zz h) t av:=
 ⟨w.HY,by simp[NU],λhf=>DF _ (w.lt hf)⟩
def SW.fr(w:SW h bi b F si t av){id:Nat}(IC:zz h<=id)(f:Fr id h h'):SW h' bi b F si t av:=by have hl:=(Aq.1 w.sc).1;exact⟨w.pb.Dj λi hi=>f.2 i (w.pb.lt hi) (by have:=w.pb.lt hi;omega),by rw[f.2 si hl Ab];exact w.sc,w.no⟩
def pG{k h2:Ah}{id:Nat}{x:DG}(IC:(h++[x]).length<=id)(f:Fr id (h++[x]) k)(e:Du k (λi=>F i\/i=zz h) h2 (λi=>F' i\/i=zz h)):Du h F h2 F':=by
 have l1:(h++[x]).length=zz h+1:=AH;have c:=f.1;have l3:=e.len;refine⟨Ab,λi hi hn=>?_,λi hf=>?_⟩;.rw[e.old i Ab (λh=>by obtain h|h:=h;exact hn h;omega),f.2 i Ab Ab,Ak hi]
 .rcases e.Bu i (zf hf) with(h1|h1)|h1
  .exact zf h1
  .exact ze Ab
  .exact ze Ab
def bq(h0:Ah):∃h1,BK cx 120 [] h0 (z1 (zu (zz h0))) h1/\Fr (zz h0) h0 h1/\∀s,Qb h1 zi zy (z1 (zu (zz h0))) (zk s)=zu ((lk Fh s).getD zi):=by let⟨h1,r,k,f⟩:=aRe h0;exact⟨h1,r,f,λs=>by rw[k.get,Ğ]⟩
def aHb{k:Int}(hk:t.k=k)(h:1<=k/\k<=6):t.ok:=by rw[Fq.ok];omega
def aZ{k:Nat}{x y:List Aa}:AA (.GD zo .fn) [zr (zp k) x y,zi]=zu tt:=rfl
def br:AA (.GD zo .fn) [zi,zi]=zu ff:=rfl
section
variable(w:PB h bi b F)
def Pz(hk:t.k=2){k:Nat}(e:lk Fh t.name=zu (qf k))(g:k<=99999)(d:∀h1,SW h1 bi b F (zz h) t av->aG6 h1 F (zz h) k [Pt (zz h) 0] (zt []) bi b'):Lu h F 33 [Pt bi 0,z5 (Co t av)] ff bi b':=by have w0:=SW.new w t av;let⟨h1,i,f1,g1⟩:=bq (h++[NU bi t av]);have w1:=w0.fr (Ae _) f1;let⟨h2,F2,r2,l,j⟩:=d h1 w1;have f:=Ĕ w t av;rw[As (aHb hk Bf)] at f;have c:=g1 t.name;rw[e] at c;refine⟨h2,F2,?_,l,pG (Ae _) f1 j⟩;rw[Ad,ZO,t33];simp[NU,Co,hk,Aw,Bn,BP] at i f c;simp[abS,AQ,Co,aZ,f,hk,KD,i,c,FE,qf,Dw,BB,aRd g r2]
def aLY(hk:t.k=2){k:Nat}{r:Bool}(e:lk Fh t.name=zu (zr (zp k) [] []))(g:k<=99999)(d:∀h1,SW h1 bi b F (zz h) t av->Lu h1 F k [Pt (zz h) 0] (zn r) bi b'):Lu h F 33 [Pt bi 0,z5 (Co t av)] (zn r) bi b':=by have w0:=SW.new w t av;let⟨h1,i,f1,g1⟩:=bq (h++[NU bi t av]);have w1:=w0.fr (Ae _) f1;let⟨h2,F2,r2,l,j⟩:=(d h1 w1).KZ (si:=zz h);have f:=Ĕ w t av;rw[As (aHb hk Bf)] at f;have c:=g1 t.name;rw[e] at c;refine⟨h2,F2,?_,l,pG (Ae _) f1 j⟩;rw[Ad,ZO,t33];simp[NU,Co,hk,Aw,Bn,BP] at i f c;simp[abS,AQ,Co,aZ,f,hk,KD,i,c,FE,Dw,BB,g,r2]
def aRg(g:Gz b (n+4*a+4) o a)(ht:t.Sm)(hv:AL t.Aj av)(hk:t.k=2)(e:lk Fh t.name=zg):Lu h F 33 [Pt bi 0,z5 (Co t av)] ff bi (b.A6.Ey t):=by have w0:=SW.new w t av;let⟨h1,i,f1,g1⟩:=bq (h++[NU bi t av]);have w1:=w0.fr (Ae _) f1;have j:Gz b (n+4+4*a) o a:=g.dn Ab;let⟨h2,F2,r2,q,m⟩:=Dv w1.pb j;let⟨r,s,f,p,l⟩:=Hw q j.A6 ht hv;have d:=Ĕ w t av;rw[As (aHb hk Bf)] at d;have c:=g1 t.name;rw[e] at c;refine⟨r,s,?_,p,pG (Ae _) f1 (m.trans l).ę⟩;rw[Ad,ZO,t33];simp[NU,Co,hk,Aw,Bn,BP] at i d c f;simp[abS,AQ,Co,br,d,hk,KD,i,c,cz,r2,f]
def bt(g:Gz b (n+8*(4*(o+a+8)+10)+8*a+2000) o a)(ht:t.Sm)(hv:AL t.Aj av)(hk:t.k=2):Lu h F 33 [Pt bi 0,z5 (Co t av)] (zn (b.opens t).2) bi (b.opens t).1:=by
 have ge:∀{m},m<=n+8*(4*(o+a+8)+10)+8*a+2000->Gz b m o a:=λh=>g.dn h;rw[BS.opens];by_cases c:t.name∈Ng;.rw[Af c];exact aLY w hk (by simp[Fh,lk,AM,c]) Bf λh1 w1=>aRa w1 (n:=n) (ge Ab) ht hv λhx=>absurd (AM.1 hx.2▸c:aXv∈Ng) Bx
 rw[Ac c];by_cases d:t.name∈S8;.rw[Af d];exact Pz w hk (by simp[Fh,lk,c,d]) Bf λh1 w1=>(Ę w1 (n:=n) (ge Ab) ht hv).KZ
 rw[Ac d];by_cases e:t.name∈CZ;.rw[Af e];exact Pz w hk (by simp[Fh,lk,c,d,e]) Bf λh1 w1=>(aQT w1 (n:=n) (ge Ab) ht hv).KZ
 rw[Ac e];by_cases f:t.name∈QW;.rw[Af f];exact Pz w hk (by simp[Fh,lk,c,d,e,f]) Bf λh1 w1=>(aQU w1 (n:=n) (ge Ab) ht hv).KZ
 rw[Ac f];by_cases i:t.name∈RQ;.rw[Af i];exact Pz w hk (by simp[Fh,lk,c,d,e,f,i]) Bf λh1 w1=>(aG4 w1 (n:=n) (ge Ab) ht hv).KZ
 rw[Ac i];by_cases j:t.name∈Ny;.rw[Af j];exact Pz w hk (by simp[Fh,lk,c,d,e,f,i,j]) Bf λh1 w1=>(aQX w1 (n:=n) (ge Ab) ht hv).KZ
 rw[Ac j];by_cases l:t.name∈S9;.rw[Af l];exact Pz w hk (by simp[Fh,lk,c,d,e,f,i,j,l]) Bf λh1 w1=>aQ3 w1 (n:=n) (ge Ab) ht hv
 rw[Ac l];by_cases p:t.name∈QX;.rw[Af p];exact aLY w hk (by simp[Fh,lk,c,d,e,f,i,j,l,p]) Bf λh1 w1=>⟨h1,F,aRb _,w1.pb,.refl⟩
 rw[Ac p];by_cases q:t.name∈bk;.rw[Af q];exact Pz w hk (by simp[Fh,lk,c,d,e,f,i,j,l,p,q]) Bf λh1 w1=>(aQ4 w1 (n:=n) (ge Ab) ht hv).KZ
 rw[Ac q];by_cases r:t.name∈aS;.rw[Af r];exact Pz w hk (by simp[Fh,lk,c,d,e,f,i,j,l,p,q,r]) Bf λh1 w1=>(aQ7 w1 (n:=n) (ge Ab) ht hv).KZ
 rw[Ac r];by_cases KT:t.name∈Xq;.rw[Af KT];exact Pz w hk (by simp[Fh,lk,c,d,e,f,i,j,l,p,q,r,KT]) Bf λh1 w1=>(aQ8 w1 (n:=n) (ge Ab) ht hv).KZ
 rw[Ac KT];by_cases Lf:t.name∈aT;.rw[Af Lf];exact Pz w hk (by simp[Fh,lk,c,d,e,f,i,j,l,p,q,r,KT,Lf]) Bf λh1 w1=>(aQ0 w1 (n:=n) (ge Ab) ht hv).KZ
 rw[Ac Lf];by_cases L5:t.name∈Uv;.rw[Af L5];exact Pz w hk (by simp[Fh,lk,c,d,e,f,i,j,l,p,q,r,KT,Lf,L5]) Bf λh1 w1=>(aQ6 w1 (n:=n) (ge Ab) ht hv).KZ
 rw[Ac L5];by_cases Mq:t.name∈Ta;.rw[Af Mq];exact Pz w hk (by simp[Fh,lk,c,d,e,f,i,j,l,p,q,r,KT,Lf,L5,Mq]) Bf λh1 w1=>(aQ9 w1 (n:=n) (ge Ab) ht hv).KZ
 rw[Ac Mq];by_cases Nb:t.name=aXy;.rw[Af Nb];exact Pz w hk (by simp[Fh,lk,AM,c,d,e,f,i,j,l,p,q,r,KT,Lf,L5,Mq,AE Nb]) Bf λh1 w1=>(aRc w1 (n:=n) (ge Ab) ht hv).KZ
 rw[Ac Nb];by_cases OJ:t.name=aXX;.rw[Af OJ];exact Pz w hk (by simp[Fh,lk,AM,c,d,e,f,i,j,l,p,q,r,KT,Lf,L5,Mq,Nb,AE OJ]) Bf λh1 w1=>(aQV w1 (n:=n) (ge Ab) ht hv).KZ
 rw[Ac OJ];by_cases PO:t.name=aXw;.rw[Af PO];exact Pz w hk (by simp[Fh,lk,AM,c,d,e,f,i,j,l,p,q,r,KT,Lf,L5,Mq,Nb,OJ,AE PO]) Bf λh1 w1=>(aQW w1 (n:=n) (ge Ab) ht hv).KZ
 rw[Ac PO];by_cases QU:t.name=[97];.rw[Af QU];exact Pz w hk (by simp[Fh,lk,AM,c,d,e,f,i,j,l,p,q,r,KT,Lf,L5,Mq,Nb,OJ,PO,AE QU]) Bf λh1 w1=>(aQ1 w1 (n:=n) (ge Ab) ht hv).KZ
 rw[Ac QU];by_cases Sq:t.name=aXE;.rw[Af Sq];exact Pz w hk (by simp[Fh,lk,AM,c,d,e,f,i,j,l,p,q,r,KT,Lf,L5,Mq,Nb,OJ,PO,QU,AE Sq]) Bf λh1 w1=>(aQY w1 (n:=n) (ge Ab) ht hv).KZ
 rw[Ac Sq];by_cases Ur:t.name=aXA;.rw[Af Ur];exact Pz w hk (by simp[Fh,lk,AM,c,d,e,f,i,j,l,p,q,r,KT,Lf,L5,Mq,Nb,OJ,PO,QU,Sq,AE Ur]) Bf λh1 w1=>(aQZ w1 (n:=n) (ge Ab) ht hv).KZ
 rw[Ac Ur];by_cases Wz:t.name=aXN;.rw[Af Wz];exact Pz w hk (by simp[Fh,lk,AM,c,d,e,f,i,j,l,p,q,r,KT,Lf,L5,Mq,Nb,OJ,PO,QU,Sq,Ur,AE Wz]) Bf λh1 w1=>(aQ5 w1 (n:=n) (ge Ab) ht hv).KZ
 rw[Ac Wz];exact aRg w (n:=n) (ge Ab) ht hv hk (by simp[Fh,lk,AM,c,d,e,f,i,j,l,p,q,r,KT,Lf,L5,Mq,Nb,OJ,PO,QU,Sq,Ur,Wz])
end
end
end Go.Am
end
section
end
section
end
section
end
section
end
section
end
section
end
section
end
section
namespace Go.Am
open Go
def aLZ{t:Fq}{av:Aa}(hv:AL t.Aj av)(hl:zz t.Aj<=1000000):∃fR,AL t.Aj fR/\∀h,BK cx 25 [z5 (Co t av)] h (z5 (Co t fR)) h:=by let⟨u,e,hu⟩:=AX.i7 (l:=([]:List A9)) (f:=A9.row) (v:= .slnil) (b:=40) (ze ⟨rfl,rfl⟩) hv (by simp;have:A0=140737488355328:=rfl;omega);refine⟨u,hu,λh=>?_⟩;have hc:u.cells=[u]:=AX.cells hu;simp[Ad,zD,BD,Co,e,hc,Bn,BP,Qy,aNu]
section
variable{sa:List A9->Bool}{t:Fq}{av:Aa}{h:Ah}
def Fq.Ss(sa:List A9->Bool)(t:Fq):Bool:=decide (zz t.name<=60)&&(decide (zz t.vz<=100)&&(decide (zz t.sys<=100)&&(decide (zz t.data<=200)&&sa t.Aj)))
def f455(j:∀{v:Aa} {l:List A9} (h:Ah),AL l v->BK cx 10 [v] h (zn (sa l)) h)(hv:AL t.Aj av)(h:Ah):BK cx 5 [z5 (Co t av)] h (zn (t.Ss sa)) h:=by
 rw[Ad,aJf];rw[Fq.Ss];have b:((zz t.name:Int)<=60)=(zz t.name<=60):=propext Ab;have d:((zz t.vz:Int)<=100)=(zz t.vz<=100):=propext Ab;have f:((zz t.sys:Int)<=100)=(zz t.sys<=100):=propext Ab;have i:((zz t.data:Int)<=200)=(zz t.data<=200):=propext Ab;by_cases a:zz t.name<=60;rotate_left;.simp only[abS,zx,↓reduceIte,Co,b,a,JO]
 by_cases c:zz t.vz<=100;rotate_left;.simp only[abS,zx,↓reduceIte,Co,b,a,d,c,JO]
 by_cases e:zz t.sys<=100;rotate_left;.simp only[abS,zx,↓reduceIte,Co,b,a,d,c,f,e,JO]
 by_cases g:zz t.data<=200;rotate_left;.simp only[abS,zx,↓reduceIte,Co,b,a,d,c,f,e,i,g,JO]
 .simp only[abS,zx,↓reduceIte,Co,b,a,d,c,f,e,i,g,JO,j h hv]
end
end Go.Am
end
section
end
section
end
section
end
section
end
section
end
section
end
section
end
section
end
section
namespace Go.Am
open Go
def Is(r:Kz):HC:=λx vs h=>r=(x,vs,h)
section
variable{C:GN}{f:FuncId}{args:List Aa}{h h':Ah}{v:Aa}
def Is.ret(hw:W C (B8 C f args) (Is (.ret,[v],h')) h):BK C f args h v h':=
 Ad.2 (hw.mono λx vs h1 e=>by rw[Is] at e;cases e;exact⟨rfl,rfl,rfl⟩)
def Is.of(hr:BK C f args h v h'):W C (B8 C f args) (Is (.ret,[v],h')) h:=
 W.mono (Ad.1 hr) λx vs h1 ⟨c,b,a⟩=>by rw[Is];rw[c,b,a]
end
section
variable{C:GN}{fn':FuncId->List Aa->IT}
def ğ{rec:IT->Ah->Option Kz}(Xb:∀t h r,rec t h=zu r->W C t (Is r) h)(ng:∀f args h r,rec (fn' f args) h=zu r->W C (B8 C f args) (Is r) h):
  ∀(t:IT) (h:Ah) (r:Kz),zw fn' rec t h=zu r->W C t (Is r) h:=by
 intro t;induction t with
 |ret x vs=>intro h r d;simp[zw,BF] at d;exact xi d.symm
 |fail=>intro h r d;simp[zw] at d
 |op o args k ih=>
  intro h r d;simp[zw] at d;split at d;next v e=>exact aIa e (ih _ _ _ d)
  .cases d
 |cells n v k ih=>
  intro h r d;simp only[zw] at d;split at d;next hc=>exact dr hc (ih _ _ _ d)
  .cases d
 |GJ c t e i w=>
  intro h r d;simp[zw] at d;split at d;.exact du (λ_=>i _ _ d) λh=>by cases h
  .exact du (λh=>by cases h) λ_=>w _ _ d
  .cases d
 |load n p k ih=>
  intro h r d;simp[zw] at d;split at d;next v e=>exact xj e (ih _ _ _ d)
  .cases d
 |store n p v k ih=>
  intro h r d;simp[zw] at d;split at d;next v e=>exact dv e (ih _ _ d)
  .cases d
 |alloc n v k ih=>
  intro h r d;simp[zw,Yl] at d;by_cases hc:zz v.cells=n;.rw[Af hc] at d;exact dw hc (ih _ _ _ d)
  .rw[Ac hc] at d;cases d
 |call f args k ih=>
  intro h r d;simp[zw] at d;split at d;next v h1 e=>exact(Is.ret (ng _ _ _ _ e)).aFf.2 (ih _ _ _ d)
  .cases d
 |La g args k ih=>
  intro h r d;simp only[zw] at d;split at d
  .rename_i f a ht;split at d;.rename_i v h1 e;exact QA.2 ⟨(f,a),ht,(Is.ret (ng _ _ _ _ e)).aFf.2 (ih _ _ _ d)⟩
   .cases d
  .cases d
 |BM f args k ih=>
  intro h r d;simp only[zw] at d;split at d
  .rename_i HB;split at d
   .rename_i v h1 e;split at d;.rename_i vn;have hp:JN C f args v:=(Is.ret (ng _ _ _ _ e)).ev rfl;exact(hp.BM HB vn).2 (ih _ _ _ d)
    .cases d
   .cases d
  .cases d
 |loop key init body k u j=>
  intro h r d;simp[zw] at d;split at d;next vs h1 e=>exact QB ((u _ _ _ e).mono λx l h2 q=>by rw[Is] at q;cases q;exact zf ⟨rfl,Xb _ _ _ d⟩)
  next x vs h1 hne e=>exact QB ((u _ _ _ e).mono λx l h2 q=>by rw[Is] at q;cases q;exact ze ⟨λhx=>hne hx,j _ _ _ _ d⟩)
  .cases d
 |OS key t k i j=>
  intro h r d;simp[zw] at d;split at d;next x vs h1 e=>exact xr ((i _ _ e).mono λx l h2 q=>by rw[Is] at q;cases q;exact j _ _ _ _ d)
  .cases d
 |same a b k ih=>
  intro h r d;simp only[zw] at d;split at d;next hc=>exact xk hc (ih _ _ d)
  .cases d
 |P9 k ih=>intro h r d;simp[zw] at d;exact xl (ih _ _ _ d)
 |KX m key v k ih=>
  intro h r d;simp[zw] at d;split at d;next h1 e=>exact xm e (ih _ _ d)
  .cases d
 |MN z ok m key k ih=>
  intro h r d;simp[zw] at d;split at d;next h1 e=>exact xn e (ih _ _ _ d)
  .cases d
 |make size bytes zero len cap k ih=>
  intro h r d;simp[zw] at d;split at d;next h1 v e=>exact wC e (ih _ _ _ d)
  .cases d
 |LM size bytes s x k ih=>
  intro h r d;simp[zw] at d;split at d;next h1 v e=>exact dx e (ih _ _ _ d)
  .cases d
 |Fz s k ih=>
  intro h r d;simp[zw] at d;split at d;next h1 v e=>exact Yz e (ih _ _ _ d)
  .cases d
 |P5 v k ih=>
  intro h r d;simp[zw] at d;split at d;next h1 v e=>exact aCX e (ih _ _ _ d)
  .cases d
 |Qa off p k ih=>
  intro h r d;simp[zw] at d;split at d;next h1 e=>exact dy e (ih _ _ d)
  .cases d
 |J7 size bytes s x k ih=>
  intro h r d;simp[zw] at d;split at d;next h1 v e=>exact xo e (ih _ _ _ d)
  .cases d
 |Ha size bytes s x k ih=>
  intro h r d;simp[zw] at d;split at d;next v e=>exact dD e (ih _ _ _ d)
  .cases d
 |mem o args k ih=>
  intro h r d;simp[zw] at d;split at d;next h1 v e=>exact aCY e (ih _ _ _ d)
  .cases d
 |dd f args k ih=>
  intro h r d;simp[zw] at d;split at d
  .rename_i v h1 e;split at d;.rename_i vn;let⟨n,x,vs,h2,D,y⟩:=ng _ _ _ _ e;rw[Is] at y;cases y;let⟨m,x',Iq,h',B,A⟩:=(ih _ _ _ d).succ;refine C7 ⟨max n m,x',Iq,h',?_,A⟩;have a1:=IT.IG (Im n m) D;have a2:=IT.Kk (λt h r=>IT.IG (fn:=B8 C) (HL n m)) _ _ _ B;simp[zw];simp[GN.run] at*;simp[a1,vn,BR];exact a2
   .cases d
  .cases d
def aHc(C:GN)(fn':FuncId->List Aa->IT):Prop:=∀f args,fn' f args=B8 C f args\/∀n h r,zc fn' n (fn' f args) h=zu r->W C (B8 C f args) (Is r) h
def pH(hs:aHc C fn'):∀(n:Nat) (t:IT) (h:Ah) (r:Kz),zc fn' n t h=zu r->W C t (Is r) h
 |0,t,h,r,a=>by simp[zc] at a
 |n+1,t,h,r,a=>by
  refine ğ (rec:=zc fn' n) (pH hs n) ?_ t h r a;intro f args h r a;obtain e|e:=hs f args
  .rw[e] at a;exact pH hs n _ _ _ a
  .exact e n h r a
def uz(hs:aHc cx fn'){f:FuncId}{args:List Aa}{h:Ah}(n:Nat)(hr:ZW (zc fn' n (B8 cx f args) h)=zo):Ev cx f args h λr _=>r= zn zo:=by let⟨h',e⟩:=cO hr;exact(Is.ret (pH hs n _ _ _ e)).ev rfl
def nh(v:Aa):IT:= .Fz (zk []) λu=> .P5 u λ_=> .ret .ret [v]
def gA{n:Nat}{v:Aa}{h:Ah}{r:Kz}(e:zc fn' n (nh v) h=zu r):r=(.ret,[v],h++[.CU]):=by
 cases n with
 |zero=>simp[zc] at e
 |succ n=>
  have e0:Jn h (zk [])=zu (h++[.cells []],.CC (zz h) 0 0 1):=rfl;have a:KY (h++[.cells []]) (.CC (zz h) 0 0 1)=zu (h++[.CU],.sl 1 []):=by simp[KY,CD]
  simp[zc,nh,zw,e0,a,BF] at e;exact e.symm
end
theorem aL0{l:Ai}{ws:List Ai}(w:Pw l ws)(s:Ai)(h:Ah):BK cx 242 [zk s,zk l] h (zn (decide (s∈ws))) (h++[.CU]):=by have a:=aCt w h;have r2:=aBG (Cw (ws:=ws)) (by have:=w.few;omega) s (h++[DG.CU]);simp[Ad,XV,BD,a,r2]
def eqB:Ai->Ai->Bool
 |[],[]=>zo
 |a::s,b::t=>z4 a.toNat b.toNat&&eqB s t
 |_,_=>zy
theorem ni:∀{s t:Ai},eqB s t=zo↔s=t
 |[],[]=>by simp[eqB]
 |[],b::t=>by simp[eqB]
 |a::s,[]=>by simp[eqB]
 |a::s,b::t=>by simp only[eqB,Bq,ni (s:=s) (t:=t),Fs,yz];exact⟨λ⟨h1,h2⟩=>⟨PD.1 h1,h2⟩,λ⟨h1,h2⟩=>⟨by rw[h1],h2⟩⟩
def spN(n:Nat):Bool:=(z7 9 n&&z7 n 13)||z4 n 32
theorem aHe(c:UInt8):spN c.toNat=OM c:=by unfold spN OM;rw[z3];simp[WN,Bq,yy,yz,Cd]
def wm:Ai->Ai->List Ai
 |cur,[]=>match cur with
  |[]=>[]
  |_::_=>[cur.reverse]
 |cur,c::r=>match spN c.toNat with
  |zo=>match cur with
   |[]=>wm [] r
   |_::_=>cur.reverse::wm [] r
  |zy=>wm (c::cur) r
theorem pI:∀(s cur:Ai),wm cur s=wf cur.reverse s
 |[],[]=>by simp[wm,wf]
 |[],c::cur=>by simp[wm,wf]
 |c::r,cur=>by
  have h1:=aHe c;cases hc:OM c with
  |true=>
   rw[hc] at h1;cases cur with
   |nil=>simp[wm,wf,h1,hc,pI r []]
   |cons x cur=>simp[wm,wf,h1,hc,pI r []]
  |false=>rw[hc] at h1;simp[wm,wf,h1,hc,pI r (c::cur)]
def okB(l:Ai):Bool:=z7 (zz l) 1000000&&l.all λc=>z7 (c.toNat+1) 128
theorem nj{l:Ai}(h:okB l=zo):Pw l (wm [] l):=by rw[okB] at h;simp[Bq,yy,Ei] at h;exact⟨h.1,λc hc=>by have:=h.2 c hc;omega,by rw[pI];rfl⟩
def bu(s:Ai)(l:List Ai):Bool:=l.any (eqB s)
theorem u_(s:Ai)(l:List Ai):bu s l=decide (s∈l):=by rw[z3];simp only[bu,Oa,ni,Cd];exact⟨λ⟨x,h1,h2⟩=>h2▸h1,λh=>⟨s,h,rfl⟩⟩
theorem aL1(r:Int)(h:Ah):BK cx 232 [zb .i32 r] h (zn (decide (aR r))) h:=by
 have b:∀(lo hi:Int) (h:Ah),BK cx 360 [zb .i32 lo,zb .i32 hi] h (zr (zp 413) [] [.CH [zb .i32 lo],.CH [zb .i32 hi]]) h:=λlo hi h=>by simp[Ad,Ud,abS]
 have e:∀(v:Aa) (h:Ah),v.cells=[v]->BK cx 359 [v] h (zr (zp 412) [] [.CH [v]]) h:=λv h hv=>by simp[Ad,X4,abS,hv]
 have c:=aLQ (L:=[(9,10),(12,13),(32,32)]) Bf r h;have a:AA (.Dk 1) [zr (zp 413) [] [.CH [zb .i32 9],.CH [zb .i32 10]],zr (zp 413) [] [.CH [zb .i32 12],.CH [zb .i32 13]],zr (zp 413) [] [.CH [zb .i32 32],.CH [zb .i32 32]]]=zu (.sl 1 ([((9:Int),(10:Int)),(12,13),(32,32)].map WG)):=rfl;have d:∀v:Aa,Dw (zr (zp 412) [] [v]) [zb .i32 r]=zu (412,[zb .i32 r,v]):=λ_=>rfl;have r2:=e (.sl 1 ([((9:Int),(10:Int)),(12,13),(32,32)].map WG)) h rfl;have e0:decide (aR r)=([((9:Int),(10:Int)),(12,13),(32,32)].any λp=>decide (p.1<=r/\r<=p.2)):=by
  have a:aR r↔((9<=r/\r<=10)\/(12<=r/\r<=13)\/(32<=r/\r<=32)):=by rw[aR];omega
  simp only[J5,vK,L7,<-Bool.decide_or,Ds];exact a
 simp only[e0,Ad,XT,abS,b 9 10 h,b 12 13 h,b 32 32 h,a,r2,d,c]
def Ġ(d:IT):List Aa->IT
 |[zk s,zk l]=>match okB l with
  |zo=>nh (zn (bu s (wm [] l)))
  |zy=>d
 |_=>d
def ġ(d:IT):List Aa->IT
 |[zk l]=>match okB l with
  |zo=>nh (.sl 1 ((wm [] l).map Cr))
  |zy=>d
 |_=>d
def Ģ(d:IT):List Aa->IT
 |[zb .i32 r]=> .ret .ret [zn (decide (aR r))]
 |_=>d
noncomputable def aL2(f:FuncId)(args:List Aa):IT:=
 match z4 f 242 with
 |zo=>Ġ (tab f args) args
 |zy=>match z4 f 367 with
  |zo=>ġ (tab f args) args
  |zy=>match z4 f 232 with
   |zo=>Ģ (tab f args) args
   |zy=>tab f args
theorem aCx:aHc cx aL2:=by
 intro f args;rw[aL2];split
 .rename_i hf;have hf:=NX hf;subst hf;unfold Ġ;split
  .rename_i s l;split;.rename_i ho;refine ze λn h r e=>?_;rw[gA e,u_];exact Is.of (aL0 (nj ho) s h)
   .exact zf (by rw[S2])
  .exact zf (by rw[S2])
 .split
  .rename_i hf;have hf:=NX hf;subst hf;unfold ġ;split
   .rename_i l;split;.rename_i ho;refine ze λn h r e=>?_;rw[gA e];exact Is.of (aCt (nj ho) h)
    .exact zf (by rw[S2])
   .exact zf (by rw[S2])
  .split
   .rename_i hf;have hf:=NX hf;subst hf;unfold Ģ;split
    .rename_i a;refine ze λn h r e=>?_;cases n with
     |zero=>simp[zc] at e
     |succ n=>simp[zc,zw,BF] at e;rw[<-e];exact Is.of (aL1 a h)
    .exact zf (by rw[S2])
   .exact zf (by rw[S2])
theorem bw:Ev cx 6 [] [] λr _=>r= zn zo:=uz aCx 3000 C8
theorem bz:JN cx 6 [] tt:=bw
end Go.Am
end
