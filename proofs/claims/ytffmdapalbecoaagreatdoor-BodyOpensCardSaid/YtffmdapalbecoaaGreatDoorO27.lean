/- Lemmas -/
import Derived.Test.YtffmdapalbecoaaGreatDoorO26
set_option linter.all false
set_option maxRecDepth 100000
open List renaming length→zz
open Nat renaming reduceLeDiff→zy
open Option renaming some→zx,none→zk
open UInt8 renaming ofNat→zw
open Go.Am.AX renaming cells→zt,BG→z0,CK→z3
open Bool renaming false→zs,true→z9
open Go.Am.AJ renaming next→zr
open Go.Am.Aa renaming tuple→zq,slnil→zo,str→zm,bool→zj,int→zg,agg→zd
open Go.Am.Oc renaming int→zf,len→yu
open Or renaming inr→zh,inl→z2
open Go.Am.DG renaming cells→zb,cells→z8
open Go.IntKind renaming i64→za,i32→yw,u8→yt
open Go.Am.BS renaming plain→z1,I0→z5,If→z6,CE→yz,FJ→yx
open Go.Am.A9 renaming row→z4
open Go.Am renaming put→yy
section
namespace Go.Am
open Go
structure bc(h:Ah)(v:Aa)(fs:List Cp):Prop where
 len:AA (yu zs) [v]=zx (I (zz fs:Int))
 at_:∀k (hk:k<zz fs),∃id o,AA (.EE 3) [v,I (k:Int)]=zx (Pt id o)/\A5 h zk (Pt id o)=zx (I fs[k].c.node)/\A5 h zk (Pt id (o+1))=zx (zm fs[k].c.name)/\A5 h zk (Pt id (o+2))=zx fs[k].v
def NRd(h:Ah)(x:Fc)(r:List Aa):Prop:=∃K V,r=[I x.kind,I x.Gm,K,I x.CF,I x.A7,zm x.name,V,zm x.data,zm x.vz,zm x.sys,zj x.Cs,I x.cont,I x.EC]/\QR h K x.Be/\NQ h V x.Aj/\K.cells=[K]/\V.cells=[V]
def aM(h:Ah)(v:Aa)(l:List Fc):Prop:=∃AD:List (List Aa),AX 13 AD v/\zz AD=zz l/\∀k (h1:k<zz AD) (h2:k<zz l),NRd h l[k] AD[k]
def aN(h:Ah)(lo:Nat)(v:Aa)(l:List Fc):Prop:=∃AD:List (List Aa),AX 13 AD v/\zz AD=zz l/\∀k (h1:k<zz AD) (h2:k<zz l),Xk h lo l[k] AD[k]
section
variable{h h':Ah}{lo lo':Nat}{v v':Aa}
def Nd.at_{l:List B5}(hv:Nd h lo v l):∃fs:List Cp,fs.map (·.c)=l/\bc h v fs:=by
 rcases hv with⟨rfl,rfl⟩|⟨id,fs,_,rfl,hc,e⟩
 .exact⟨[],rfl,rfl,λk hk=>by simp at hk⟩
 .refine⟨fs,e,rfl,λk hk=>⟨id,k*3,Fk hk,?_⟩⟩;have hg:(fs.map Cp.row)[k]?=zx fs[k].row:=by rw[Cc,An hk];rfl
  have ld:∀j,j<3->A5 h zk (Pt id (k*3+j))=fs[k].row[j]?:=λj hj=>by simp[A5,hc,Fu];exact L2 (Pe fs) hj hg
  have l0:=ld 0 Bf;rw[Bw] at l0;exact⟨l0,ld 1 Bf,ld 2 Bf⟩
def Up.le{N b:Nat}(hu:Up N v)(hl:b<=N):Up b v:=λid k e=>Bv hl (hu id k e)
section
variable{x:Fc}{r:List Aa}(hr:Xk h lo x r)
def Xk.rd:NRd h x r:=let⟨K,V,e,h1,h2,_⟩:=hr;⟨K,V,e,h1.S4,h2.in_,zt h1,h2.cells⟩
def Xk.low(hl:lo'<=lo):Xk h lo' x r:=let⟨K,V,e,h1,h2,b⟩:=hr;⟨K,V,e,h1,h2,b.le hl⟩
end
def aN.rd{l:List Fc}(hv:aN h lo v l):aM h v l:=let⟨AD,h1,h2,c⟩:=hv;⟨AD,h1,h2,λk a b=>(c k a b).rd⟩
def f18{l:List Int}(hv:QR h v l)(DR:QR h v' l)(hb:zz l<=1000000000):BK cx 143 [v,v'] h tt h:=by
 simp only[Ad,aAr,abS,hv.len,DR.len,B3,CG];refine Bj (λn:Nat=>[ff,I (n:Int)]) (λn h1=>n<=zz l/\h1=h) (λn=>zz l-n) 0 rfl ⟨AV _,rfl⟩ ?_;rintro n h1 ⟨hn,rfl⟩;obtain hlt|Et:=AP n (zz l)
 .let⟨p,a1,a2⟩:=hv.at_ n hlt;let⟨p',b1,b2⟩:=DR.at_ n hlt;simp[abS,hv.len,(Ab:(n:Int)<(zz l:Int)),a1,a2,b1,b2,B3,CG,By n];exact zr (n+1) rfl ⟨hlt,rfl⟩ Ab
 .simp only[abS,hv.len,(Ab:¬(n:Int)<(zz l:Int))]
def aK5(y:A9):AA (.geq z9 [.i,.s,.s]) [zd y.row,zd y.row]=zx (zj zs):=by rw[SQ];simp[z4,Ek,Mb]
def aK6{l:List A9}(hv:NQ h v l)(DR:NQ h v' l)(hb:zz l<=1000000000):BK cx 419 [v,v'] h tt h:=by
 simp only[Ad,aBC,abS,hv.len,DR.len,B3,CG];refine Bj (λn:Nat=>[ff,I (n:Int)]) (λn h1=>n<=zz l/\h1=h) (λn=>zz l-n) 0 rfl ⟨AV _,rfl⟩ ?_;rintro n h1 ⟨hn,rfl⟩;obtain hlt|Et:=AP n (zz l)
 .let⟨p,a1,a2⟩:=hv.at_ n hlt;let⟨p',b1,b2⟩:=DR.at_ n hlt;simp only[abS,hv.len,(Ab:(n:Int)<(zz l:Int)),a1,a2,b1,b2,aK5,By n];exact zr (n+1) rfl ⟨hlt,rfl⟩ Ab
 .simp only[abS,hv.len,(Ab:¬(n:Int)<(zz l:Int))]
def f87{fs b:List Cp}(hv:bc h v fs)(DR:bc h v' b)(he:fs.map (·.c)=b.map (·.c))(hb:zz fs<=1000000000)(ha:∀e∈fs,zz e.c.Aj<=1000000000):BK cx 144 [v,v'] h tt h:=by
 have hl:zz b=zz fs:=by have:=Cj List.length he;exact zv this.symm
 have l1:=hv.len;have p:=DR.len;rw[hl] at p;simp only[Ad,aAs,abS,l1,p,B3,CG];refine Bj (λn:Nat=>[ff,I (n:Int)]) (λn h1=>n<=zz fs/\h1=h) (λn=>zz fs-n) 0 rfl ⟨AV _,rfl⟩ ?_;rintro n h1 ⟨hn,rfl⟩;obtain hlt|Et:=AP n (zz fs)
 .have Ug:n<zz b:=by omega
  have q:b[n].c=fs[n].c:=by have:=Cj (λl=>l[n]?) he;simp[Cc,An hlt,An Ug,B6,BF] at this;exact this.symm
  let⟨id,o,a1,a2,a3,a4⟩:=hv.at_ n hlt;let⟨Gv,o',b1,b2,b3,b4⟩:=DR.at_ n Ug;rw[q] at b2 b3;have bJ:AL fs[n].c.Aj fs[n].v:=fs[n].ok;have aK7:AL fs[n].c.Aj b[n].v:=by rw[<-q];exact b[n].ok
  have bM:=ha _ (AN hlt);have f:=z3 bJ;have r:=z3 aK7;generalize fs[n].v=av at*;generalize b[n].v=fR at*;generalize fs[n].c.Aj=d at*;simp only[abS,l1,(Ab:(n:Int)<(zz fs:Int)),a1,a2,a3,a4,b1,b2,b3,b4,B3,CG,f,r];refine Bj (λj:Nat=>[ff,I (j:Int)]) (λj h2=>j<=zz d/\h2=h1) (λj=>zz d-j) 0 rfl ⟨AV _,rfl⟩ ?_;rintro j h2 ⟨hj,rfl⟩;obtain dU|s:=AP j (zz d)
  .have u:=z0 (k:= za) bJ dU;have t:=z0 (k:= za) aK7 dU;have i:(z4 d[j]).length=3:=rfl;have g:(z4 d[j]).take 3=z4 d[j]:=rfl;simp only[abS,a1,a4,b1,b4,f,(Ab:(j:Int)<(zz d:Int)),u,t,i,g,Ae,aK5,By j];exact zr (j+1) rfl ⟨dU,rfl⟩ Ab
  .simp only[abS,a1,a4,f,(Ab:¬(j:Int)<(zz d:Int)),By n];exact zr (n+1) rfl ⟨hlt,rfl⟩ Ab
 .simp only[abS,l1,(Ab:¬(n:Int)<(zz fs:Int))]
def f22{s:SS}{t o c t' o' c':Aa}(w:Us h lo s t o c)(w':Us h lo' s t' o' c')(b1:zz s.tm<=1000000000)(b2:zz s.AI<=1000000000)(b3:zz s.AW<=1000000000)(b4:∀e∈s.AW,zz e.Aj<=1000000000):BK cx 46 [zd (WA s t o c),zd (WA s t' o' c')] h tt h:=by
 let⟨fs,d,he⟩:=w.c.at_;let⟨l,b,Qu⟩:=w'.c.at_;have g:=f18 w.o.S4 w'.o.S4 b2;have r2:=f87 he Qu (d.trans b.symm) (by rwa[<-d,Ao] at b3) (λe hm=>b4 e.c (by rw[<-d];exact PT hm));have l1:=w.t.len;have j:=w'.t.len;simp only[Ad,aFH,WA,WA,abS,l1,j,B3,CG,g,r2];refine Bj (λn:Nat=>[ff,I (n:Int)]) (λn h1=>n<=zz s.tm/\h1=h) (λn=>zz s.tm-n) 0 rfl ⟨AV _,rfl⟩ ?_;rintro n h1 ⟨hn,rfl⟩;obtain hlt|Et:=AP n (zz s.tm)
 .have a1:=z0 (k:= za) (w.t.ne λe=>by rw[e] at hlt;simp at hlt) hlt;have a2:=z0 (k:= za) (w'.t.ne λe=>by rw[e] at hlt;simp at hlt) hlt;rw[Cb] at a1 a2;simp[abS,l1,(Ab:(n:Int)<(zz s.tm:Int)),a1,a2,B3,CG,By n];exact zr (n+1) rfl ⟨hlt,rfl⟩ Ab
 .simp only[abS,l1,(Ab:¬(n:Int)<(zz s.tm:Int)),CG,DO]
section
variable{x:Fc}{r r':List Aa}(hr:NRd h x r)(Gy:NRd h x r')(hb:x.Aj.length<=1000000000)
def aQf:BK cx 385 [zd r,zd r'] h tt h:=by obtain⟨K,V,rfl,g,d,f,e⟩:=hr;obtain⟨j,i,rfl,uH,wh,c,cU⟩:=Gy;have b:=aK6 d wh hb;simp[Ad,aBw,abS,CG,b,DO]
def aQg(hk:zz x.Be<=1000000000):BK cx 294 [zd r,zd r'] h tt h:=by have b:=aQf hr Gy hb;obtain⟨K,V,rfl,d,g,f,e⟩:=hr;obtain⟨j,i,rfl,uH,wh,c,cU⟩:=Gy;have r2:=f18 d uH hk;simp[Ad,aBa,BD,CG,b,r2,DO]
end
def f90{l:List Fc}(hv:aM h v l)(DR:aM h v' l)(hb:zz l<=1000000000)(ha:∀x∈l,zz x.Aj<=1000000000/\zz x.Be<=1000000000):BK cx 149 [v,v'] h tt h:=by
 let⟨AD,i,s,q⟩:=hv;let⟨b,c,g,e⟩:=DR;have l1:=i.len;have p:=c.len;rw[s] at l1;rw[g] at p;simp only[Ad,aAv,abS,l1,p,B3,CG];refine Bj (λn:Nat=>[ff,I (n:Int)]) (λn h1=>n<=zz l/\h1=h) (λn=>zz l-n) 0 rfl ⟨AV _,rfl⟩ ?_;rintro n h1 ⟨hn,rfl⟩;obtain hlt|Et:=AP n (zz l)
 .have a1:=i.EE (k:= za) (Ab:n<zz AD);have a2:=c.EE (k:= za) (Ab:n<zz b);have o:=q n Ab hlt;have j:=e n Ab hlt;have hm:=ha _ (AN hlt);have d:=aQg o j hm.1 hm.2;let⟨K,V,r,_⟩:=o;let⟨u,t,f,_⟩:=j;rw[r] at a1 d;rw[f] at a2 d;simp[abS,l1,(Ab:(n:Int)<(zz l:Int)),a1,a2,d,By n];exact zr (n+1) rfl ⟨hlt,rfl⟩ Ab
 .simp only[abS,↓reduceIte,l1,(Ab:¬(n:Int)<(zz l:Int))]
end
def bd{A:Ar}{k:Nat}(hk:k<zz A.n):A.has ((k:Int)+1)/\A.nd ((k:Int)+1)=A.n[k]:=by
 have h1:A.has ((k:Int)+1):=by rw[Ar.has];omega
 refine⟨h1,?_⟩;rw[Ar.nd];rw[Af h1,AS,(Ab:((k:Int)+1).toNat-1=k),An hk];rfl
section
variable{h h':Ah}{a n:Nat}{m:Option Nat}{ps:List PN}{A:Ar}{x:Int}
def aQh(w:PA h a n m ps A)(p:N4 A)(hk:∀x,(A.nd x).Be.length<=1000000000)(hb:zz A.n<=900000000):∃v u,BK cx 150 [Pt a 0] h v (h++u)/\aN (h++u) (zz h) v A.n:=by
 have cF:A0=140737488355328:=rfl;have pS:zz A.n=zz ps:=by rw[w.e,Ao]
 have IJ:Ev cx 150 [Pt a 0] h λr h'=>∃u,h'=h++u/\aN (h++u) (zz h) r A.n:=by
  simp only[Ev,aAw,BD,Wn,w.nodes,show AA (yu zs) [.CC n 0 (zz ps) 13]=zx (I (zz ps:Int)) from rfl];refine Bj (λz:Aa×Nat=>[z.1,I (z.2:Int)]) (λz h1=>z.2<=zz ps/\∃u,h1=h++u/\aN (h++u) (zz h) z.1 (A.n.take z.2)) (λz=>zz ps-z.2) (zo,0) rfl ⟨AV _,[],AH,[],.nil,AH,λk h1 h2=>by simp at h1⟩ ?_;rintro⟨V,k⟩ h1 ⟨bQ,u,rfl,c⟩;simp only at bQ c;have w1:PA (h++u) a n m ps A:=w.Dj λi hi=>Ak (w.lt i hi);obtain hlt|Et:=AP k (zz ps)
  .let⟨hx,ex⟩:=bd (A:=A) (k:=k) Ab;let⟨r,t,l,hr⟩:=aDx w1 p hx (hk _);have ea:AA (.EE 13) [.CC n 0 (zz ps) 13,I (k:Int)]=zx (.ptr (zx (n,nP n ((k:Int)+1)))):=by have:=Fk (k:= za) (id:=n) (z:=13) hlt;rw[this];rw[nP];congr 4
   let⟨AD,g,d,o⟩:=c;rw[Ax,Ct Ab] at d;let⟨K,W,f,LU⟩:=hr;have em:AA (.Dk 13) [zd r]=zx (.sl 13 [r]):=MZ (a:= zd r) (by rw[f];rfl) Bf;have s:=AX.yD (b:=168) (row:=r) g Ab;simp only[abS,(Ab:(k:Int)<(zz ps:Int)),w1.nodes,ea,l,em,s,By k];refine zr (_,k+1) rfl ⟨hlt,u++t,by rw[AK],AD++[r],.mk,by rw[Aw,Ax,d];simp;omega,λj h1 h2=>?_⟩ DA;rw[<-AK];rw[aS6];by_cases hj:j<zz AD;.rw[IQ hj];have:=o j hj (by rw[Ax];omega);rw[aS6] at this;exact this.HY
   .have q:j=k:=by simp at h1;omega
    subst q;rw[ń Ab];simp only[d,Dl,aHp];rw[<-ex];exact Xk.low (lo:=(h++u).length) ⟨K,W,f,LU⟩ AH
  .rw[AF Ab] at c;simp only[abS,(Ab:¬(k:Int)<(zz ps:Int))];exact⟨_,rfl,u,rfl,c⟩
 obtain⟨r,h',hr,u,rfl,c⟩:=IJ.ret;exact⟨r,u,hr,c⟩
end
structure RN where
 x:Fc
 kv:Aa
 av:Aa
 okk:Ec x.Be kv
 oka:AL x.Aj av
def RN.row(p:RN):List Aa:=[I p.x.kind,I p.x.Gm,p.kv,I p.x.CF,I p.x.A7,zm p.x.name,p.av,zm p.x.data,zm p.x.vz,zm p.x.sys,zj p.x.Cs,I p.x.cont,I p.x.EC]
def RN.z:RN:=⟨{},zo,zo,zh ⟨rfl,rfl⟩,zh ⟨rfl,rfl⟩⟩
def ą(l:List RN):∀r∈l.map RN.row,zz r=13:=M0 (f:=RN.row) (λ_=>rfl) l
structure RA(h:Ah)(a n i:Nat)(ps:List RN)(A:Ar):Prop where
 e:A.n=ps.map RN.x
 il:zz A.i=zz A.n
 ha:h[a]?=zx (z8 [.CC n 0 (zz ps+1) 13,.CC i 0 (zz ps+1) 1])
 hn:h[n]?=zx (z8 ((RN.z::ps).map RN.row).flatten)
 hi:h[i]?=zx (z8 ((0::A.i).map (Aa.int za)))
 d:a≠n/\a≠i/\n≠i
def JZ(a n i:Nat):Nat->Prop:=λj=>j=a\/j=n\/j=i
def RW(h:Ah)(G:Nat->Prop)(a:Nat)(A:Ar):Prop:=∃n i ps,RA h a n i ps A/\G=JZ a n i
def pR(ps:List RN)(x:Int):RN:=(RN.z::ps).getD x.toNat RN.z
def nR(x:Int):Nat:=x.toNat*13
section
variable{h h':Ah}{a n i:Nat}{ps:List RN}{A:Ar}{x:Int}{G:Nat->Prop}
def RA.Dj(w:RA h a n i ps A)(hf:∀j,JZ a n i j->h'[j]?=h[j]?):RA h' a n i ps A:=
 ⟨w.e,w.il,by rw[hf a (z2 rfl)];exact w.ha,by rw[hf n (zh (z2 rfl))];exact w.hn,by rw[hf i (zh (zh rfl))];exact w.hi,w.d⟩
def RA.lt(w:RA h a n i ps A){j:Nat}(hj:JZ a n i j):j<zz h:=by
 obtain rfl|rfl|rfl:=hj
 .exact(Aq.1 w.ha).1
 .exact(Aq.1 w.hn).1
 .exact(Aq.1 w.hi).1
def RW.Dj(w:RW h G a A)(hf:∀j,G j->h'[j]?=h[j]?):RW h' G a A:=by obtain⟨n,i,ps,w,rfl⟩:=w;exact⟨n,i,ps,w.Dj hf,rfl⟩
def RW.lt(w:RW h G a A){j:Nat}(hj:G j):j<zz h:=by obtain⟨n,i,ps,w,rfl⟩:=w;exact w.lt hj
section
variable(w:RA h a n i ps A)
def RA.len:zz A.n=zz ps:=by rw[w.e,Ao]
def RA.nodes:A5 h zk (Pt a 0)=zx (.CC n 0 (zz ps+1) 13):=by simp only[A5,w.ha];rfl
def RA.Z9:A5 h zk (Pt a 1)=zx (.CC i 0 (zz ps+1) 1):=by simp only[A5,w.ha];rfl
def RA.at(hx:A.has x):x.toNat<zz ps+1/\(x.toNat:Int)=x:=by have h1:=hx.1;have h2:=hx.2;rw[w.len] at h2;omega
def RA.pn(hx:A.has x):(RN.z::ps)[x.toNat]?=zx (pR ps x)/\(pR ps x).x=A.nd x:=by
 have h1:=(w.at hx).1;have h2:=hx.1;have hl:x.toNat<(RN.z::ps).length:=zv h1
 refine⟨by rw[pR];rw[AS,An hl];rfl,?_⟩;unfold Ar.nd pR;rw[Af hx,w.e];obtain⟨k,hk⟩:∃k,x.toNat=k+1:=⟨x.toNat-1,Ab⟩;rw[hk,aNv,Fy,AS,AS,Cc];have:k<zz ps:=Ab;rw[An this];rfl
def RA.P6(hx:A.has x){k:Nat}(hk:k<13):A5 h zk (Pt n (nR x+k))=(pR ps x).row[k]?:=by rw[nR];simp[A5,w.hn,Fu];exact L2 (ą _) hk (by rw[Cc,(w.pn hx).1];rfl)
def RA.addr(hx:A.has x):AA (.EE 13) [.CC n 0 (zz ps+1) 13,I x]=zx (Pt n (nR x)):=by let⟨h1,h2⟩:=w.at hx;have:=Fk (k:= za) (id:=n) (z:=13) h1;rwa [h2] at this
def RA.f0(hx:A.has x):A5 h zk (Pt n (nR x))=zx (I (A.nd x).kind):=by have:=w.P6 hx (k:=0) Bf;rw[Bw] at this;rw[this,<-(w.pn hx).2];rfl
def RA.f1(hx:A.has x):A5 h zk (Pt n (nR x+1))=zx (I (A.nd x).Gm):=by rw[w.P6 hx Bf,<-(w.pn hx).2];rfl
def RA.f2(hx:A.has x):A5 h zk (Pt n (nR x+2))=zx (pR ps x).kv:=by rw[w.P6 hx Bf];rfl
def RA.f3(hx:A.has x):A5 h zk (Pt n (nR x+3))=zx (I (A.nd x).CF):=by rw[w.P6 hx Bf,<-(w.pn hx).2];rfl
def RA.f4(hx:A.has x):A5 h zk (Pt n (nR x+4))=zx (I (A.nd x).A7):=by rw[w.P6 hx Bf,<-(w.pn hx).2];rfl
def RA.f5(hx:A.has x):A5 h zk (Pt n (nR x+5))=zx (zm (A.nd x).name):=by rw[w.P6 hx Bf,<-(w.pn hx).2];rfl
def RA.f6(hx:A.has x):A5 h zk (Pt n (nR x+6))=zx (pR ps x).av:=by rw[w.P6 hx Bf];rfl
def RA.f7(hx:A.has x):A5 h zk (Pt n (nR x+7))=zx (zm (A.nd x).data):=by rw[w.P6 hx Bf,<-(w.pn hx).2];rfl
def RA.f11(hx:A.has x):A5 h zk (Pt n (nR x+11))=zx (I (A.nd x).cont):=by rw[w.P6 hx Bf,<-(w.pn hx).2];rfl
def RA.f12(hx:A.has x):A5 h zk (Pt n (nR x+12))=zx (I (A.nd x).EC):=by rw[w.P6 hx Bf,<-(w.pn hx).2];rfl
def RA.NJ(hx:A.has x):Ec (A.nd x).Be (pR ps x).kv:=by rw[<-(w.pn hx).2];exact(pR ps x).okk
def RA.ç(hx:A.has x):AL (A.nd x).Aj (pR ps x).av:=by rw[<-(w.pn hx).2];exact(pR ps x).oka
def RA.wr(hx:A.has x){k:Nat}(hk:k<13){v:Aa}(hv:v.cells=[v]){p:RN}(hp:p.row=(pR ps x).row.set k v):
  ∃h',Cy h 1 (Pt n (nR x+k)) v=zx h'/\RA h' a n i (ps.set (x.toNat-1) p) (A.set x p.x)/\Du h (JZ a n i) h' (JZ a n i)/\zz h'=zz h:=by
 let⟨hlt,b⟩:=w.at hx;have h1:=hx.1;have hg:=(w.pn hx).1;have Ug:x.toNat<(RN.z::ps).length:=zv hlt
 rw[An Ug,BF] at hg;have e:=OF (AD:=(RN.z::ps).map RN.row) (i:=x.toNat) (k:=k) (v:=v) (ą _) (zv hlt) hk;rw[CR,hg,<-hp,<-EI] at e;have es:(RN.z::ps).set x.toNat p=RN.z::ps.set (x.toNat-1) p:=by obtain⟨j,hj⟩:∃j,x.toNat=j+1:=⟨x.toNat-1,Ab⟩;rw[hj,aRz,Fy]
 rw[es] at e;have PH:=w.lt (zh (z2 rfl));refine⟨h.set n (z8 ((RN.z::ps.set (x.toNat-1) p).map RN.row).flatten),?_,⟨?_,?_,?_,AY PH,?_,w.d⟩,⟨by rw[Br];exact Ae _,λj _ hn=>Au λe=>hn (zh (z2 e.symm)),λj hj=> z2 hj⟩,Br⟩;.unfold nR;simp only[Cy,w.hn,hv,Bl,Nr];rw[Af (by rw[Gq (ą _),Ao];have:=Ea 13 (show x.toNat+1<=(RN.z::ps).length from Ug);omega),e]
 .unfold Ar.set;simp only;rw[Af hx,w.e,EI]
 .unfold Ar.set;simp only;rw[Af hx,Br];exact w.il
 .rw[Au (DY w.d.1),Br];exact w.ha
 .rw[Au w.d.2.2];exact w.hi
def H8:BK cx 280 [Pt a 0,I x] h (zj (decide (A.has x))) h:=by
 have hl:=w.len;rw[Ad,aAX];by_cases h0:0<x
 .have e:decide (A.has x)=decide (x<((zz ps+1:Nat):Int)):=by rw[Ds];rw[Ar.has];omega
  simp[e,BD,Wn,h0,w.nodes,show AA (yu zs) [.CC n 0 (zz ps+1) 13]=zx (I ((zz ps+1:Nat):Int)) from rfl]
 .have e:decide (A.has x)=zs:=by rw[Al];rw[Ar.has];omega
  simp[e,abS,h0]
def aK8:BK cx 410 [Pt a 0,I x] h (I (A.nd x).Gm) h:=by
 rw[Ad,aBy];by_cases hx:A.has x;.simp only[abS,H8 (x:=x) w,As hx,w.nodes,w.addr hx,w.f1 hx]
 .rw[H6 hx];simp[abS,H8 (x:=x) w,Al hx]
def Ć(hb:(A.nd x).Be.length<=1000000000):∃v,BK cx 211 [Pt a 0,I x] h v h/\Ec (A.nd x).Be v:=by
 have hm:A0=140737488355328:=rfl;by_cases hx:A.has x;.let⟨u,e,hu⟩:=AX.Gg (b:=8) (w.NJ hx) Ab;refine⟨u,?_,hu⟩;simp[Ad,jo,abS,H8 (x:=x) w,As hx,w.nodes,w.addr hx,w.f2 hx,e]
 .refine⟨zo,?_,by rw[H6 hx];exact zh ⟨rfl,rfl⟩⟩;simp[Ad,jo,abS,H8 (x:=x) w,Al hx]
def aK9(hx:A.has x):BK cx 417 [Pt a 0,I x] h (I (A.up x)) h:=by
 rw[Ad,aBA];by_cases hp:(A.nd x).Gm=0
 .have e:A.up x=(A.nd x).EC:=by rw[Ar.up];rw[Ac (zv hp)]
  simp[abS,w.nodes,w.addr hx,w.f1 hx,hp,w.f12 hx,e,B3,CG]
 .have e:A.up x=(A.nd x).Gm:=by rw[Ar.up];rw[Af (zv hp)]
  simp[abS,w.nodes,w.addr hx,w.f1 hx,hp,e,B3]
end
end
def aLa{A:Ar}{e x:Int}(ok:E1 A e)(hx:A.has x)(h0:A.up x≠0):A.has (A.up x):=by
 rw[Ar.up] at h0⊢;split at h0;next h=>rw[Af h];exact(ok.Gm x hx h).1
 next h=>rw[Ac h];exact(ok.EC x hx h0).1
def uj{A:Ar}{t x:Int}(hne:x≠t):Reach A t x↔A.up x≠0/\Reach A t (A.up x):=by
 constructor
 .intro h;cases h with
  |refl=>cases hne rfl
  |step h1 h2=>exact⟨h1,h2⟩
 .exact λh=> .step h.1 h.2
section
variable{h h':Ah}{a n i:Nat}{ps:List RN}{A:Ar}{x:Int}{G:Nat->Prop}
open Classical in
def aLb{up e:Int}(w:RA h a n i ps A)(ok:E1 A e)(hu:A.has up)(hx:A.has x):BK cx 378 [Pt a 0,I up,I x] h (.bool (decide (Reach A up x))) h:=by
 obtain⟨r,hr⟩:=ok.jI;have d:up≠0:=by have:=hu.1;omega
 rw[Ad,aBr];simp only[abS,H8 (x:=up) w,H8 (x:=x) w,As hu,As hx];refine Bj (λc:Int=>[I c,ff]) (λc h1=>(c=0\/A.has c)/\(Reach A up x↔c≠0/\Reach A up c)/\h1=h) (λc=>if c=0 then 0 else r c+1) x rfl ⟨.inr hx,⟨λh=>⟨by have:=hx.1;omega,h⟩,λh=>h.2⟩,rfl⟩ ?_;rintro c h1 ⟨hc,he,rfl⟩;by_cases h0:c=0;.have e:decide (Reach A up x)=false:=Al (λf=>(he.1 f).1 h0);simp only[abS,h0,B3,e]
 .have hc:=hc.resolve_left h0;by_cases b:c=up;.have e:decide (Reach A up x)=true:=As (he.2 ⟨h0,by rw[b];exact .refl⟩);simp only[abS,h0,B3,AE b,e]
  .simp only[abS,h0,B3,b,aK9 w hc];refine AJ.next (A.up c) rfl ⟨?_,?_,rfl⟩ ?_
   .by_cases hz:A.up c=0;.exact .inl hz
    .exact .inr (aLa ok hc hz)
   .rw[he,uj b];exact⟨λh=>h.2,λh=>⟨h0,h⟩⟩
   .by_cases hz:A.up c=0;.rw[Af hz,Ac h0];omega
    .rw[Ac hz,Ac h0];have:=hr c hc hz;omega
def aLc{v:Aa}{l:List Int}(hv:Ec l v)(hb:zz l<=1000000000)(x:Int)(h:Ah):∃u,BK cx 379 [v,I x] h u h/\Ec (l.filter λk=>decide (k≠x)) u:=by
 have hm:A0=140737488355328:=rfl;have IJ:Ev cx 379 [v,I x] h λr h'=>Ec (l.filter λk=>decide (k≠x)) r/\h'=h:=by
  rw[Ev];rw[aBs];refine Bj (λs:Aa×Nat=>[s.1,I (s.2:Int)]) (λs h1=>s.2<=zz l/\Ec ((l.take s.2).filter λk=>decide (k≠x)) s.1/\h1=h) (λs=>zz l-s.2) (zo,0) rfl ⟨AV _,zh ⟨rfl,rfl⟩,rfl⟩ ?_;rintro⟨u,k⟩ h1 ⟨hk,hu,rfl⟩;simp only at hk hu;have hvl:=z3 hv;obtain hlt|Et:=AP k (zz l)
  .have c:=z0 (k:= za) hv hlt;rw[Cb] at c;have em:AA (.Dk 1) [I l[k]]=zx (.sl 1 [Cb l[k]]):=rfl;have HB:((l.take k).filter λk=>decide (k≠x)).length<=zz l:=Bv (Xr _ _) (by rw[Ax];omega);have d:=AX.JU (b:=8) (a:=l[k]) hu Ab;simp only[abS,hvl,(Ab:(k:Int)<(zz l:Int)),c,em,d,By k,B3];refine⟨λh2=>?_,λh2=>?_⟩
   .refine zr (_,k+1) rfl ⟨hlt,?_,rfl⟩ DA;rw[AB hlt,Fx];have:[l[k]].filter (λk=>decide (k≠x))=[l[k]]:=by simp[h2]
    rw[this];exact .mk
   .refine zr (u,k+1) rfl ⟨hlt,?_,rfl⟩ DA;rw[AB hlt,Fx];have h2:l[k]=x:=zv h2
    have:[l[k]].filter (λk=>decide (k≠x))=[]:=by simp[h2]
    rwa[this,BB]
  .rw[AF Et] at hu;simp only[abS,hvl,(Ab:¬(k:Int)<(zz l:Int))];exact⟨_,rfl,hu⟩
 obtain⟨r,h',hr,hu,rfl⟩:=IJ.ret;exact⟨r,hr,hu⟩
def aDX(w:RA h a n i ps A)(hx:A.has x)(hb:∀y,(A.nd y).Be.length<=1000000000){e:Int}(ok:E1 A e):∃h' JK,BK cx 277 [Pt a 0,I x] h (I 0) h'/\RA h' a n i JK (A.cut x)/\Du h (JZ a n i) h' (JZ a n i):=by
 by_cases hp:(A.nd x).Gm=0;.refine⟨h,ps,?_,by rw[Ar.cut];simp only;rwa[Af hp],.refl⟩;simp[Ad,kg,abS,H8 (x:=x) w,As hx,w.nodes,w.addr hx,w.f1 hx,hp,B3]
 .let⟨hq,_⟩:=ok.Gm x hx hp;obtain⟨q,eq⟩:∃q,q=(A.nd x).Gm:=⟨_,rfl⟩;rw[<-eq] at hp hq;let⟨u,m,hu⟩:=aLc (w.NJ hq) (hb q) x h;let⟨h1,l,w1,f,l1⟩:=w.wr hq (k:=2) Bf (v:=u) (zt hu) (p:=⟨{A.nd q with Be:=(A.nd q).Be.filter λk=>decide (k≠x)},u,(pR ps q).av,hu,w.ç hq⟩) (by simp only[RN.row];rw[(w.pn hq).2];rfl);have PY:(A.set q {A.nd q with Be:=(A.nd q).Be.filter λk=>decide (k≠x)}).has x:=IV.2 hx;have cT:=(w1.pn PY).2;let⟨h2,j,g,d,s⟩:=w1.wr PY (k:=1) Bf (v:=I 0) rfl (p:=⟨{(A.set q {A.nd q with Be:=(A.nd q).Be.filter λk=>decide (k≠x)}).nd x with Gm:=0},(pR _ x).kv,(pR _ x).av,w1.NJ PY,w1.ç PY⟩) (by simp only[RN.row];rw[cT];rfl);have o:A.cut x=(A.set q {A.nd q with Be:=(A.nd q).Be.filter λk=>decide (k≠x)}).set x {(A.set q {A.nd q with Be:=(A.nd q).Be.filter λk=>decide (k≠x)}).nd x with Gm:=0}:=by rw[Ar.cut];simp only;rw[<-eq,Ac hp]
  refine⟨h2,_,?_,by rwa[o],f.trans d⟩;have r:(A.nd x).Gm=q:=eq.symm;have b:=w1.nodes;have c:=w1.addr PY;rw[Br] at b c;simp[Ad,kg,abS,H8 (x:=x) w,As hx,w.nodes,w.addr hx,w.f1 hx,r,hp,B3,w.addr hq,w.f2 hq,m,BN,l,b,j]
open Classical in
def aLd{p b e:Int}(w:RA h a n i ps A)(ok:E1 A e):∃q:Int,BK cx 276 [Pt a 0,I p,I x,I b] h (I q) h/\(q=0↔Q_ A p x b):=by
 by_cases hp:A.has p;rotate_left;.refine⟨3,?_,⟨λh=>absurd h Bf,λf=>absurd f.hp hp⟩⟩;rw[Ad,KQ];simp only[abS,H8 (x:=p) w,Al hp,A8]
 by_cases hx:A.has x;rotate_left;.refine⟨3,?_,⟨λh=>absurd h Bf,λf=>absurd f.hn hx⟩⟩;rw[Ad,KQ];simp only[abS,H8 (x:=p) w,As hp,H8 (x:=x) w,Al hx,A8]
 by_cases hb:b≠0/\¬A.has b;.refine⟨3,?_,⟨λh=>absurd h Bf,λf=>absurd (f.hb hb.1).1 hb.2⟩⟩;rw[Ad,KQ];simp only[abS,H8 (x:=p) w,As hp,H8 (x:=x) w,As hx,B3,hb.1,H8 (x:=b) w,Al hb.2,A8]
 have m:b≠0->A.has b:=λh0=>by
  by_cases h1:A.has b;.exact h1
  .exact absurd ⟨h0,h1⟩ hb
 have first:∀(Q:HC) (k:Dm->List Aa->IT),W cx (k .normal [ff]) Q h->W cx (.OS 200001 (.call 280 [Pt a 0,I p] λv0=> .op (.un .not) [v0] λs=> .GJ s (.ret .normal [tt]) (.call 280 [Pt a 0,I x] λv2=> .op (.un .not) [v2] λv3=> .GJ v3 (.ret .normal [tt]) (.op (.int .neq) [I b,I 0] λv4=> .GJ v4 (.call 280 [Pt a 0,I b] λv5=> .op (.un .not) [v5] λr=> .ret .normal [r]) (.ret .normal [ff])))) k) Q h:=by
  intro Q k hk;by_cases h0:b=0;.simp only[abS,H8 (x:=p) w,As hp,H8 (x:=x) w,As hx,B3,h0,A8];exact hk
  .simp only[abS,H8 (x:=p) w,As hp,H8 (x:=x) w,As hx,B3,h0,H8 (x:=b) w,As (m h0),A8];exact hk
 by_cases kp:LZ (A.nd p).kind;rotate_left
 .refine⟨4,?_,⟨λh=>absurd h Bf,λf=>absurd f.kp kp⟩⟩;unfold LZ at kp;have v:¬(A.nd p).kind=1:=λe=>kp (.inl e);have u:¬(A.nd p).kind=2:=λe=>kp (.inr (.inl e));have t:¬(A.nd p).kind=4:=λe=>kp (.inr (.inr e));rw[Ad,KQ];refine first _ _ ?_
  simp only[abS,w.nodes,w.addr hp,w.f0 hp,w.addr hx,w.f0 hx,A8,B3,v,u,t]
 by_cases d:(A.nd x).kind=1
 .refine⟨4,?_,⟨λh=>absurd h Bf,λf=>absurd d f.kn.1⟩⟩;rw[Ad,KQ];refine first _ _ ?_
  rcases kp with kp|kp|kp<;>simp only[abS,w.nodes,w.addr hp,w.f0 hp,w.addr hx,w.f0 hx,A8,B3,KD,kp,d]
 by_cases c:(A.nd x).kind=2
 .refine⟨4,?_,⟨λh=>absurd h Bf,λf=>absurd c f.kn.2⟩⟩;rw[Ad,KQ];refine first _ _ ?_
  rcases kp with kp|kp|kp<;>simp only[abS,w.nodes,w.addr hp,w.f0 hp,w.addr hx,w.f0 hx,A8,B3,KD,kp,c]
 have j:=aLb w ok hx hp;by_cases re:Reach A x p
 .refine⟨4,?_,⟨λh=>absurd h Bf,λf=>absurd re f.re⟩⟩;rw[As re] at j;rw[Ad,KQ];refine first _ _ ?_
  rcases kp with kp|kp|kp<;>simp only[abS,w.nodes,w.addr hp,w.f0 hp,w.addr hx,w.f0 hx,A8,B3,KD,kp,d,c,j]
 rw[Al re] at j;by_cases g:b=0
 .refine⟨0,?_,⟨λ_=>⟨hp,hx,λh=>absurd g h,kp,⟨d,c⟩,re⟩,λ_=>rfl⟩⟩;rw[Ad,KQ];refine first _ _ ?_
  rcases kp with kp|kp|kp<;>simp only[abS,w.nodes,w.addr hp,w.f0 hp,w.addr hx,w.f0 hx,A8,B3,KD,kp,d,c,j,g]
 by_cases l:b=x
 .refine⟨5,?_,⟨λh=>absurd h Bf,λf=>absurd l (f.hb g).2.1⟩⟩;rw[Ad,KQ];refine first _ _ ?_
  have Ov:¬x=0:=by rw[<-l];exact g
  rcases kp with kp|kp|kp<;>simp only[abS,w.nodes,w.addr hp,w.f0 hp,w.addr hx,w.f0 hx,A8,B3,KD,kp,d,c,j,l,Ov]
 have Rg:=m g;by_cases o:(A.nd b).Gm=p
 .refine⟨0,?_,⟨λ_=>⟨hp,hx,λh=>⟨Rg,l,o⟩,kp,⟨d,c⟩,re⟩,λ_=>rfl⟩⟩;rw[Ad,KQ];refine first _ _ ?_
  rcases kp with kp|kp|kp<;>simp only[abS,w.nodes,w.addr hp,w.f0 hp,w.addr hx,w.f0 hx,A8,B3,KD,kp,d,c,j,g,l,w.addr Rg,w.f1 Rg,AE o]
 .refine⟨5,?_,⟨λh=>absurd h Bf,λf=>absurd (f.hb g).2.2 o⟩⟩;rw[Ad,KQ];refine first _ _ ?_
  rcases kp with kp|kp|kp<;>simp only[abS,w.nodes,w.addr hp,w.f0 hp,w.addr hx,w.f0 hx,A8,B3,KD,kp,d,c,j,g,l,w.addr Rg,w.f1 Rg,o]
def RO(b x:Int)(l:List Int):List Int:=l.flatMap λk=>if k=b then[x,k] else[k]
def VH{b x:Int}:∀{l:List Int},b∉l->RO b x l=l
 |[],_=>rfl
 |y::l,h=>by have h2:b∉l:=λe=>h (by simp[e]);have:=VH (x:=x) h2;rw[RO] at this⊢;grind
def uI{b x:Int}:∀{l:List Int},l.Nodup->b∈l->RO b x l=l.takeWhile (λk=>decide (k≠b))++x::l.dropWhile (λk=>decide (k≠b))
 |[],_,h=>by cases h
 |y::l,hn,h=>by
  rw[Cl] at hn;by_cases h1:y=b;.subst h1;have:=VH (x:=x) hn.1;rw[RO] at this⊢;simp_all
  .have h2:b∈l:=by obtain h|h:=AR.1 h;cases h1 h.symm;exact h
   have:=uI (x:=x) hn.2 h2;rw[RO] at this⊢;simp_all
def uJ{b x:Int}{l:List Int}:(RO b x l).length<=2*zz l:=by
 induction l with
 |nil=>simp[RO]
 |cons y l ih=>rw[RO] at ih⊢;grind
def uk{b x y:Int}{l:List Int}:RO b x (l++[y])=RO b x l++if y=b then[x,y] else[y]:=by unfold RO;rw[List.flatMap_append];simp
open Classical in
def aLe{p b e:Int}(w:RA h a n i ps A)(ok:E1 A e)(hb:∀y,(A.nd y).Be.length<=900000000):∃t h' JK,BK cx 128 [Pt a 0,I p,I x,I b] h (I t) h'/\RA h' a n i JK (A.Gs p x b)/\Du h (JZ a n i) h' (JZ a n i):=by
 let⟨t,L,q⟩:=aLd (p:=p) (x:=x) (b:=b) w ok;by_cases hf:Q_ A p x b;rotate_left;.have h0:¬t=0:=λh=>hf (q.1 h);refine⟨t,h,ps,?_,by rw[Pn hf];exact w,.refl⟩;simp only[Ad,jk,abS,L,B3,h0]
 have h0:=q.2 hf;subst h0;let⟨h1,Yd,r2,w1,F⟩:=aDX w hf.hn (λy=>Bv (hb y) Bf) ok;have ŏ:((A.cut x).nd p).Be.Nodup/\(b≠0->b∈((A.cut x).nd p).Be)/\((A.cut x).nd p).Be.length<=900000000/\(0:Int)∉((A.cut x).nd p).Be/\(A.cut x).has p/\(A.cut x).has x:=by
  have Xl:=Vo ok hf.hn hf.kn.2;have So:(A.cut x).has p:=LJ.2 hf.hp;refine⟨(Xl.T1 p So).sm,λh0=>?_,?_,λh0=>?_,So,LJ.2 hf.hn⟩
  .let⟨b1,b2,b3⟩:=hf.hb h0;have ò:((A.cut x).nd b).Gm=p:=by rw[S1 ok hf.hn,Ac b2];split<;>exact b3
   have:=(Xl.Gm b (LJ.2 b1) (by rw[ò];have:=hf.hp.1;omega)).2;rwa [ò] at this
  .have h1:=hb p;have h2:=hb x;rw[S1 ok hf.hn];split;.exact h2
   .split;.exact Bv (Xr _ _) h1
    .exact h1
  .have:=(Xl.NJ p So 0 h0).1.1;omega
 let⟨ŏ,z,N,hz,So,PY⟩:=ŏ;generalize B:A.cut x=c at*;have IJ:Ev cx 128 [Pt a 0,I p,I x,I b] h λr h'=>r=I 0/\∃JK,RA h' a n i JK (A.Gs p x b)/\Du h (JZ a n i) h' (JZ a n i):=by
  have hm:A0=140737488355328:=rfl;unfold Ev;simp only[jk,abS,L,B3,r2];have bQ:=w1.NJ So;have lk:=z3 bQ;refine Dr (i:=0) (λs:Aa×Nat=>[s.1,I (s.2:Int)]) (λs h2=>s.2<=(c.nd p).Be.length/\Ec (RO b x ((c.nd p).Be.take s.2)) s.1/\h2=h1) (λs=>(c.nd p).Be.length-s.2) (λs h2=>Ec (RO b x (c.nd p).Be) s.1/\h2=h1) (zo,0) rfl ⟨AV _,zh ⟨rfl,rfl⟩,rfl⟩ ?_ ?_
  .rintro⟨u,k⟩ h2 ⟨hk,hu,rfl⟩;simp only at hk hu;obtain hlt|Et:=AP k (c.nd p).Be.length
   .have C:=z0 (k:= za) bQ hlt;rw[Cb] at C;have pS:=uJ (b:=b) (x:=x) (l:=(c.nd p).Be.take k);rw[Ax] at pS;have g:AA (.Dk 1) [I x]=zx (.sl 1 [Cb x]):=rfl;have tz:AA (.Dk 1) [I (c.nd p).Be[k]]=zx (.sl 1 [Cb (c.nd p).Be[k]]):=rfl;have hs:=uk (b:=b) (x:=x) (y:=(c.nd p).Be[k]) (l:=(c.nd p).Be.take k);rw[<-AB hlt] at hs;by_cases ō:(c.nd p).Be[k]=b;.have a1:=AX.JU (b:=8) (a:=x) hu Ab;have PU:Ec (RO b x ((c.nd p).Be.take k)++[x]) (.sl 1 ((RO b x ((c.nd p).Be.take k)++[x]).map Cb)):= .mk;have a2:=AX.JU (b:=8) (a:=(c.nd p).Be[k]) PU (by rw[Aw,Bl];omega);rw[Af ō,show[x,(c.nd p).Be[k]]=[x]++[(c.nd p).Be[k]] from rfl,<-AK] at hs;simp only[abS,w1.nodes,w1.addr So,w1.f2 So,lk,(Ab:(k:Int)<((c.nd p).Be.length:Int)),C,AE ō,g,a1,tz,a2,A8,By k];exact .next (_,k+1) rfl ⟨hlt,by rw[hs];exact .mk,rfl⟩ DA
    .have a2:=AX.JU (b:=8) (a:=(c.nd p).Be[k]) hu Ab;rw[Ac ō] at hs;simp only[abS,w1.nodes,w1.addr So,w1.f2 So,lk,(Ab:(k:Int)<((c.nd p).Be.length:Int)),C,ō,tz,a2,A8,By k];exact .next (_,k+1) rfl ⟨hlt,by rw[hs];exact .mk,rfl⟩ DA
   .rw[AF Et] at hu;simp[abS,w1.nodes,w1.addr So,w1.f2 So,lk,(Ab:¬(k:Int)<((c.nd p).Be.length:Int))];exact .He (u,k) rfl ⟨hu,rfl⟩
  .rintro⟨u,k⟩ h2 ⟨hu,rfl⟩;simp only at hu;obtain⟨o,Ja,hw⟩:∃o,Ec (JJ (c.nd p).Be b x) o/\(b=0->AA (.append 1 8) [u,.sl 1 [Cb x]]=zx o)/\(b≠0->o=u):=by
    have pS:=uJ (b:=b) (x:=x) (l:=(c.nd p).Be);by_cases h0:b=0;.have a1:=AX.JU (b:=8) (a:=x) hu Ab;refine⟨_,?_,λ_=>a1,λh=>absurd h0 h⟩;have e:RO b x (c.nd p).Be=(c.nd p).Be:=VH (by rw[h0];exact hz);rw[e];unfold JJ;rw[Af h0];exact .mk
    .refine⟨u,?_,λh=>absurd h h0,λ_=>rfl⟩;unfold JJ;rw[Ac h0,<-uI ŏ (z h0)];exact hu
   let⟨Q,K,m,E,_⟩:=w1.wr So (k:=2) Bf (v:=o) (zt Ja) (p:=⟨{c.nd p with Be:=JJ (c.nd p).Be b x},o,(pR Yd p).av,Ja,w1.ç So⟩) (by simp only[RN.row];rw[(w1.pn So).2];rfl);have d:(c.set p {c.nd p with Be:=JJ (c.nd p).Be b x}).has x:=IV.2 PY;have cT:=(m.pn d).2;let⟨P,J,H,D,_⟩:=m.wr d (k:=1) Bf (v:= I p) rfl (p:=⟨{(c.set p {c.nd p with Be:=JJ (c.nd p).Be b x}).nd x with Gm:=p},(pR _ x).kv,(pR _ x).av,m.NJ d,m.ç d⟩) (by simp only[RN.row];rw[cT];rfl);have M:A.Gs p x b=(c.set p {c.nd p with Be:=JJ (c.nd p).Be b x}).set x {(c.set p {c.nd p with Be:=JJ (c.nd p).Be b x}).nd x with Gm:=p}:=by unfold Ar.Gs;rw[Af hf,B];rfl
   have f:=m.nodes;have j:=m.addr d;rw[Br] at f j;have g:AA (.Dk 1) [I x]=zx (.sl 1 [Cb x]):=rfl;by_cases h0:b=0;.have a1:=hw.1 h0;simp only[abS,AE h0,g,a1,A8,w1.nodes,w1.addr So,K,f,j,J];exact⟨_,rfl,rfl,_,by rw[M];exact H,(F.trans E).trans D⟩
   .have O:=hw.2 h0;subst O;simp only[abS,h0,A8,w1.nodes,w1.addr So,K,f,j,J];exact⟨_,rfl,rfl,_,by rw[M];exact H,(F.trans E).trans D⟩
 obtain⟨r,h',hr,rfl,JK,w',x'⟩:=IJ.ret;exact⟨0,h',JK,hr,w',x'⟩
def mf(s:Int):JN cx 206 [I s] (zj (decide (z6 s))):=by rw[LY,aAB];by_cases h1:0<=s<;>by_cases h2:s<=7<;>simp[h1,h2,z6]
def mg(w:RA h a n i ps A)(hl:A.len<=1000000000)(p:RN):∃h' n' i',BK cx 163 [Pt a 0,zd p.row] h (I (A.len+1)) h'/\RA h' a n' i' (ps++[p]) (A.add p.x)/\Du h (JZ a n i) h' (JZ a n' i'):=by
 have hm:A0=140737488355328:=rfl;have hlen:=w.len;have fO:=w.il;have pS:zz ps<=1000000000:=by rw[Ar.len] at hl;omega
 have g1:=Kb (b:=168) (AD:=(RN.z::ps).map RN.row) (r2:=[p.row]) (v:= .sl 13 [p.row]) (ą _) Bf w.hn .mk AH EP;have L:((RN.z::ps).map RN.row).length=zz ps+1:=AH;rw[L,Bl] at g1;have m:(h.set n .CU++[zb ((RN.z::ps).map RN.row++[p.row]).flatten]).length=zz h+1:=AH;have l:(h.set n .CU++[zb ((RN.z::ps).map RN.row++[p.row]).flatten])[zz h]?=zx (z8 ((RN.z::(ps++[p])).map RN.row).flatten):=by rw[Bz AH];simp
 have VV:=w.lt (z2 rfl);have aQk:=w.lt (zh (zh rfl));have a1:(h.set n .CU++[zb ((RN.z::ps).map RN.row++[p.row]).flatten])[a]?=zx (z8 [.CC n 0 (zz ps+1) 13,.CC i 0 (zz ps+1) 1]):=by rw[Ak (zv VV),Au (DY w.d.1)];exact w.ha
 have i1:(h.set n .CU++[zb ((RN.z::ps).map RN.row++[p.row]).flatten])[i]?=zx (z8 ((0::A.i).map (Aa.int za))):=by rw[Ak (zv aQk),Au w.d.2.2];exact w.hi
 have y:∀j,j<zz h->j≠n->(h.set n .CU++[zb ((RN.z::ps).map RN.row++[p.row]).flatten])[j]?=h[j]?:=λj hj hn=>by rw[Ak (zv hj),Au (DY hn)]
 generalize h.set n .CU++[zb ((RN.z::ps).map RN.row++[p.row]).flatten]=h1 at*;have o:At h1 a 0 _:=⟨_,a1,rfl⟩;have r:=o.store (u:= .CC (zz h) 0 (zz ps+1+1) 13) rfl;have a2:=HV (k:=0) (v:= .CC (zz h) 0 (zz ps+1+1) 13) a1;have C:(put h1 a 0 (.CC (zz h) 0 (zz ps+1+1) 13))[zz h]?=_:=(Ce Ab).trans l;have F:(put h1 a 0 (.CC (zz h) 0 (zz ps+1+1) 13))[i]?=_:=(Ce (DY w.d.2.1)).trans i1;have t:∀j,j<zz h->j≠n->j≠a->(put h1 a 0 (.CC (zz h) 0 (zz ps+1+1) 13))[j]?=h[j]?:=λj hj hn ha=>(Ce ha).trans (y j hj hn);have g:(put h1 a 0 (.CC (zz h) 0 (zz ps+1+1) 13)).length=zz h+1:=by rw[Jw,m]
 generalize put h1 a 0 (.CC (zz h) 0 (zz ps+1+1) 13)=h2 at*;have E:A5 h2 zk (Pt a 1)=zx (.CC i 0 (zz ps+1) 1):=At.load ⟨_,a2,rfl⟩;have g2:=Kb (b:=8) (h:=h2) (id:=i) (AD:=(0::A.i).map Cb) (r2:=[Cb 0]) (v:= .sl 1 [[I 0]]) (M0 (f:=Cb) (λ_=>rfl) _) Bf (by rwa[OK]) (z2 rfl) AH EP;have K:((0::A.i).map Cb).length=zz ps+1:=EP;rw[K,Bl,g] at g2;have aQl:a<zz h2:=Ab;have a3:(h2.set i .CU++[zb ((0::A.i).map Cb++[Cb 0]).flatten])[a]?=_:=((Ak (zv aQl)).trans (Au (DY w.d.2.1))).trans a2;have B:(h2.set i .CU++[zb ((0::A.i).map Cb++[Cb 0]).flatten])[zz h]?=_:=((Ak EP).trans (Au Ab)).trans C;have i3:(h2.set i .CU++[zb ((0::A.i).map Cb++[Cb 0]).flatten])[zz h+1]?=zx (z8 ((0::(A.i++[0])).map (Aa.int za))):=by rw[Bz EP];simp only[Br,g,Dl,Hc];rw[<-OK];simp
 have s:∀j,j<zz h->j≠n->j≠a->j≠i->(h2.set i .CU++[zb ((0::A.i).map Cb++[Cb 0]).flatten])[j]?=h[j]?:=λj hj hn ha hi=>((Ak EP).trans (Au (DY hi))).trans (t j hj hn ha)
 have J:(h2.set i .CU++[zb ((0::A.i).map Cb++[Cb 0]).flatten]).length=zz h+2:=EP;generalize h2.set i .CU++[zb ((0::A.i).map Cb++[Cb 0]).flatten]=c at*;have t3:At c a 1 (.CC i 0 (zz ps+1) 1):=⟨_,a3,rfl⟩;have q:=t3.store (u:= .CC (zz h+1) 0 (zz ps+1+1) 1) rfl;have a4:=HV (k:=1) (v:= .CC (zz h+1) 0 (zz ps+1+1) 1) a3;have l4:A5 (put c a 1 (.CC (zz h+1) 0 (zz ps+1+1) 1)) zk (Pt a 0)=zx (.CC (zz h) 0 (zz ps+1+1) 13):=At.load ⟨_,a4,rfl⟩;refine⟨put c a 1 (.CC (zz h+1) 0 (zz ps+1+1) 1),zz h,zz h+1,?_,⟨?_,?_,?_,?_,?_,?_⟩,⟨by rw[Jw];omega,λj hj hn=>?_,λj hj=>?_⟩⟩
 .have em:AA (.Dk 13) [zd p.row]=zx (.sl 13 [p.row]):=rfl;have tz:AA (.Dk 1) [I 0]=zx (.sl 1 [[I 0]]):=rfl;have hd:=IK (n:=zz ps+1+1) Ab Ab;have H:A.len+1=((zz ps+1+1 -1:Nat):Int):=by rw[Ar.len];omega
  have D:AA (yu zs) [.CC (zz h) 0 (zz ps+1+1) 13]=zx (I ((zz ps+1+1:Nat):Int)):=rfl;rw[RN.row] at em g1;simp only[Ad,aAy,RN.row,H,abS,w.nodes,em,g1,r,E,tz,g2,q,l4,D,hd]
 .unfold Ar.add;simp only;rw[w.e,BL];rfl
 .unfold Ar.add;simp[Aw,Bl];omega
 .rw[a4,Aw];rfl
 .rw[Ce Ab];exact B
 .rw[Ce Ab];exact i3
 .exact⟨Ab,Ab,Ab⟩
 .have h1:j≠a:=λe=>hn (z2 e);have h2:j≠n:=λe=>hn (zh (z2 e));have c:j≠i:=λe=>hn (zh (zh e));rw[Ce h1];exact s j hj h2 h1 c
 .rcases hj with rfl|rfl|rfl
  .exact z2 (z2 rfl)
  .exact zh (Ae _)
  .exact zh (FD _)
def aDY{v:Aa}{l:List A9}(hv:AL l v)(hb:zz l<=1000000000)(hs:∀y∈l,z6 y.A7)(h:Ah):BK cx 311 [v] h (zj z9) h:=by
 rw[Ad,aBc];refine Bj (λk:Nat=>[ff,I (k:Int)]) (λk h1=>k<=zz l/\h1=h) (λk=>zz l-k) 0 rfl ⟨AV _,rfl⟩ ?_;rintro k h1 ⟨hk,rfl⟩;have hvl:=z3 hv;obtain hlt|Et:=AP k (zz l)
 .have b:=z0 (k:= za) hv hlt;rw[z4] at b;have c:∀{Q:HC} {h:Ah} {kk:Aa->IT},W cx (.BM 206 [I l[k].A7] kk) Q h↔W cx (kk (zj (decide (z6 l[k].A7)))) Q h:=(mf _).BM rfl rfl;simp[abS,hvl,(Ab:(k:Int)<(zz l:Int)),b,c,As (hs _ (AN hlt)),By k];exact zr (k+1) rfl ⟨hlt,rfl⟩ Ab
 .simp only[abS,hvl,(Ab:¬(k:Int)<(zz l:Int))]
def aDZ{v:Aa}{l:List A9}(hv:AL l v)(hb:zz l<=1000000000)(h:Ah):∃u,BK cx 312 [v] h u h/\AL (Cz l) u:=by
 have hm:A0=140737488355328:=rfl;have hvl:=z3 hv;have IJ:Ev cx 312 [v] h λr h'=>AL (Cz l) r/\h'=h:=by
  unfold Ev;rw[aBd];refine Bj (λs:Aa×Nat=>[s.1,I (s.2:Int)]) (λs h1=>s.2<=zz l/\AL (Cz (l.take s.2)) s.1/\h1=h) (λs=>zz l-s.2) (zo,0) rfl ⟨AV _,zh ⟨rfl,rfl⟩,rfl⟩ ?_;rintro⟨u,k⟩ h1 ⟨hk,hu,rfl⟩;simp only at hk hu;obtain hlt|Et:=AP k l.length
  .have pT:=z3 hu;have vt:=Rr (l:=l.take k);rw[Ax] at vt;have e:=z0 (k:= za) hv hlt;rw[z4] at e;simp only[abS,↓reduceIte,hvl,(Ab:(k:Int)<(l.length:Int))];refine Dr (i:=2) (λj:Nat=>[zj (((Cz (l.take k)).take j).any λz=>decide (DM l[k]=DM z)),I (j:Int)]) (λj h2=>j<=(Cz (l.take k)).length/\h2=h1) (λj=>(Cz (l.take k)).length-j) (λj h2=>j=(Cz (l.take k)).length/\h2=h1) 0 rfl ⟨AV _,rfl⟩ ?_ ?_
   .rintro j h2 ⟨hj,rfl⟩;obtain c|q:=AP j (Cz (l.take k)).length
    .have o:=z0 (k:= za) hu c;rw[z4] at o;have es:((Cz (l.take k)).take (j+1)).any (λz=>decide (DM l[k]=DM z))=(((Cz (l.take k)).take j).any (λz=>decide (DM l[k]=DM z))||decide (DM l[k]=DM (Cz (l.take k))[j])):=by rw[AB c,WO];simp
     by_cases g:(Cz (l.take k))[j].A7=l[k].A7
     .by_cases p:(Cz (l.take k))[j].name=l[k].name
      .have d:decide (DM l[k]=DM (Cz (l.take k))[j])=z9:=by simp[DM,g,p]
       simp only[abS,pT,(Ab:(j:Int)<((Cz (l.take k)).length:Int)),e,o,AE g,As p,By j];exact .next (j+1) (by rw[es,d,Bool.or_true]) ⟨c,rfl⟩ Ab
      .have d:decide (DM l[k]=DM (Cz (l.take k))[j])=zs:=by simp[DM];exact λ_ h=>p h.symm
       simp only[abS,pT,(Ab:(j:Int)<((Cz (l.take k)).length:Int)),e,o,AE g,Al p,By j];exact .next (j+1) (by rw[es,d,L7]) ⟨c,rfl⟩ Ab
     .have d:decide (DM l[k]=DM (Cz (l.take k))[j])=zs:=by simp[DM];exact λh=>absurd h.symm g
      simp only[abS,pT,(Ab:(j:Int)<((Cz (l.take k)).length:Int)),e,o,g,By j];exact .next (j+1) (by rw[es,d,L7]) ⟨c,rfl⟩ Ab
    .simp only[abS,pT,(Ab:¬(j:Int)<((Cz (l.take k)).length:Int))];exact .He j rfl ⟨Ab,rfl⟩
   .rintro j h2 ⟨rfl,rfl⟩;have m:Cz (l.take (k+1))=if(Cz (l.take k)).any (λz=>decide (DM l[k]=DM z)) then Cz (l.take k) else Cz (l.take k)++[l[k]]:=by rw[AB hlt];exact RH
    have em:AA (.Dk 3) [zd [I l[k].A7,zm l[k].name,zm l[k].value]]=zx (.sl 3 [[I l[k].A7,zm l[k].name,zm l[k].value]]):=rfl;have a1:=AX.JU (f:=z4) (b:=40) (a:=l[k]) hu Ab;rw[z4] at a1;rw[Bt];cases hq:(Cz (l.take k)).any (λz=>decide (DM l[k]=DM z)) with
    |true=>rw[Af hq] at m;simp[abS,By k];exact zr (u,k+1) rfl ⟨hlt,by rw[m];exact hu,rfl⟩ DA
    |false=>rw[Ac (by rw[hq];decide)] at m;simp only[abS,Nat.reduceLeDiff,↓reduceIte,e,em,a1,By k];exact zr (_,k+1) rfl ⟨hlt,by rw[m];exact .mk,rfl⟩ DA
  .rw[AF Et] at hu;simp only[abS,↓reduceIte,hvl,(Ab:¬(k:Int)<(l.length:Int))];exact⟨_,rfl,hu⟩
 obtain⟨r,h',hr,hu,rfl⟩:=IJ.ret;exact⟨r,hr,hu⟩
end
section
variable{h h':Ah}{a n i:Nat}{ps:List RN}{A:Ar}{x d:Int}{G:Nat->Prop}
section
variable(w:RA h a n i ps A)
def mh(hd:A.has d)(hk:(A.nd d).kind=1):BK cx 167 [Pt a 0,I d] h (I 0) h:=by simp[Ad,aAA,abS,H8 (x:=d) w,As hd,w.nodes,w.addr hd,w.f0 hd,hk,B3]
def aLj(hl:A.len<=1000000000)(hd:A.has d)(hk:(A.nd d).kind=1)(k:Int)(s:Ai):
  ∃h' n' i' JK,BK cx 127 [Pt a 0,I d,zd [I k,I 0,zo,I 0,I 0,S [],zo,zm s,S [],S [],ff,I 0,I 0]] h (zq [I (A.len+1),I 0]) h'/\RA h' a n' i' JK (A.add {kind:=k,CF:=d,data:=s})/\Du h (JZ a n i) h' (JZ a n' i'):=by
 let⟨h1,e,i1,b,w1,c⟩:=mg w hl ⟨{kind:=k,CF:=d,data:=s},zo,zo,zh ⟨rfl,rfl⟩,zh ⟨rfl,rfl⟩⟩;refine⟨h1,e,i1,_,?_,w1,c⟩;rw[RN.row] at b;simp[Ad,aAl,abS,mh w hd hk,b,B3]
def aLk(hl:A.len<=1000000000)(q:Bool):
  ∃h' n' i' JK,BK cx 61 [Pt a 0,zj q] h (I (A.len+1)) h'/\RA h' a n' i' JK (A.add {kind:=1,CF:=A.len+1,Cs:=q})/\Du h (JZ a n i) h' (JZ a n' i'):=by
 let⟨h1,f,i1,b,w1,c⟩:=mg w hl ⟨{kind:=1,CF:=A.len+1,Cs:=q},zo,zo,zh ⟨rfl,rfl⟩,zh ⟨rfl,rfl⟩⟩;refine⟨h1,f,i1,_,?_,w1,c⟩;have hn:=w.len;have e:((zz ps+1:Nat):Int)=A.len+1:=by rw[Ar.len];omega
 have g:AA (yu zs) [.CC n 0 (zz ps+1) 13]=zx (I (A.len+1)):=by rw[<-e];rfl
 rw[RN.row] at b;simp[Ad,aFL,abS,AQ,w.nodes,g,b]
def RA.mi(hx:A.has x):AA (.EE 1) [.CC i 0 (zz ps+1) 1,I x]=zx (Pt i x.toNat):=by let⟨h1,h2⟩:=w.at hx;have:=Fk (k:= za) (id:=i) (z:=1) h1;rwa [h2,Ge] at this
def RA.iat(hx:A.has x):At h i x.toNat (I (A.inr x)):=by let⟨h1,h2⟩:=w.at hx;have b:=hx.1;have hl:=w.len;have fO:=w.il;refine⟨_,w.hi,?_⟩;obtain⟨k,hk⟩:∃k,x.toNat=k+1:=⟨x.toNat-1,Ab⟩;rw[hk,Bm,aEf,Cc];rw[Ar.inr];rw[Af hx,hk,Fy,AS,An Ab];rfl
def RA.aLm(hx:A.has x)(v:Int):RA (put h i x.toNat (I v)) a n i ps (A.Jy x v)/\Du h (JZ a n i) (put h i x.toNat (I v)) (JZ a n i):=by
 let⟨h1,h2⟩:=w.at hx;have b:=hx.1;refine⟨⟨w.e,?_,(Ce w.d.2.1).trans w.ha,(Ce w.d.2.2).trans w.hn,?_,w.d⟩,⟨by rw[Jw];exact Ae _,λj _ hn=>Ce λe=>hn (zh (zh e)),λj hj=> z2 hj⟩⟩;.unfold Ar.Jy;simp only;rw[Af hx,Br];exact w.il
 .rw[HV w.hi];obtain⟨k,hk⟩:∃k,x.toNat=k+1:=⟨x.toNat-1,Ab⟩;rw[Ar.Jy];simp only;rw[Af hx,hk,Fy,Bm,aRz,Bm,EI]
def aLn(hl:A.len<=1000000000)(hd:A.has d):∃h' n' i' JK,BK cx 314 [Pt a 0,I d] h (I (A.FU d)) h'/\RA h' a n' i' JK (A.Dq d)/\Du h (JZ a n i) h' (JZ a n' i'):=by
 by_cases h0:A.inr d=0;rotate_left
 .refine⟨h,n,i,ps,?_,by rw[Ar.Dq];rwa[Af h0],.refl⟩;have e:A.FU d=A.inr d:=by rw[Ar.FU];rw[Af h0]
  simp[Ad,kh,e,abS,w.Z9,w.mi hd,(w.iat hd).load,h0]
 .let⟨h1,q,i1,Yd,p,w1,l⟩:=aLk w hl zs;have jJ:(A.add {kind:=1,CF:=A.len+1,Cs:=zs}).has d:=D3.2 (z2 hd);have ND:(A.add {kind:=1,CF:=A.len+1,Cs:=zs}).has (A.len+1):=D3.2 (zh rfl);let⟨b,k⟩:=w1.aLm jJ (A.len+1);have Tf:((A.add {kind:=1,CF:=A.len+1,Cs:=zs}).Jy d (A.len+1)).has (A.len+1):=ND;have g:(((A.add {kind:=1,CF:=A.len+1,Cs:=zs}).Jy d (A.len+1)).Jy (A.len+1) (A.len+1)).has d:=jJ;let⟨c,j⟩:=b.aLm Tf (A.len+1);have e:A.FU d=A.len+1:=by rw[Ar.FU];rw[Ac (zv h0)]
  have s:A.Dq d=(((A.add {kind:=1,CF:=A.len+1,Cs:=zs}).Jy d (A.len+1)).Jy (A.len+1) (A.len+1)):=by rw[Ar.Dq];rw[Ac (zv h0)]
  refine⟨_,q,i1,Yd,?_,by rwa[s],(l.trans k).trans j⟩;have r:(((A.add {kind:=1,CF:=A.len+1,Cs:=zs}).Jy d (A.len+1)).Jy (A.len+1) (A.len+1)).inr d=A.len+1:=by
   have f:(A.add {kind:=1,CF:=A.len+1,Cs:=zs}).i.length=(A.add {kind:=1,CF:=A.len+1,Cs:=zs}).n.length:=w1.il;rw[QL b.il,QL f];split;.rfl
   .rw[Af ⟨rfl,jJ⟩]
  have o:=(w1.iat jJ).store (u:= I (A.len+1)) rfl;have m:=(b.iat Tf).store (u:= I (A.len+1)) rfl;have ld:=(c.iat g).load;rw[r] at ld;simp[Ad,kh,e,abS,w.Z9,w.mi hd,(w.iat hd).load,h0,p,w1.Z9,w1.mi jJ,o,b.Z9,b.mi Tf,m,c.Z9,ld]
end
def aLo{v:Aa}{l:List A9}(w:RA h a n i ps A)(hx:A.has x)(hk:(A.nd x).kind=4)(hv:AL l v)(hb:zz l<=1000000000)(hs:∀y∈l,z6 y.A7):
  ∃h' JK,BK cx 225 [Pt a 0,I x,v] h (I 0) h'/\RA h' a n i JK (A.JW x l)/\Du h (JZ a n i) h' (JZ a n i):=by
 have e:=aDY hv hb hs h;let⟨u,r2,hu⟩:=aDZ hv hb h;let⟨h1,c,w1,b,_⟩:=w.wr hx (k:=6) Bf (v:=u) (zt hu) (p:=⟨{A.nd x with Aj:=Cz l},(pR ps x).kv,u,w.NJ hx,hu⟩) (by simp only[RN.row];rw[(w.pn hx).2];rfl);refine⟨h1,_,?_,w1,b⟩;simp[Ad,aAP,abS,H8 (x:=x) w,As hx,w.nodes,w.addr hx,w.f0 hx,hk,B3,e,r2,BN,c]
def aLp(p:RN)(h:Ah):BK cx 313 [zd p.row] h (zj (decide (jG p.x))) h:=by simp[Ad,aBe,RN.row,BD,jG];refine⟨λh1=>⟨λh2=>?_,λh2=>?_⟩,λh1=>?_⟩<;>simp[*]
def RA.aD0(w:RA h a n i ps A)(hx:A.has x):A5 h (zx 13) (Pt n (nR x))=zx (zd (pR ps x).row):=by
 let⟨h1,h2⟩:=w.at hx;have hlt:x.toNat<(RN.z::ps).length:=zv h1
 have:=fK (ą _) w.hn (i:=x.toNat) (zv h1);rw[CR] at this;have e:=(w.pn hx).1;rw[An hlt,BF] at e;rwa[e] at this
def aD1{v:Aa}{l:List A9}{sp:Int}{nm:Ai}(w:RA h a n i ps A)(hl:A.len+3<=1000000000)(hd:A.has d)(hk:(A.nd d).kind=1)(hs:z6 sp)(hv:AL l v)(hb:zz l<=1000000000)(yg:∀y∈l,z6 y.A7):
  ∃h' n' i' JK,BK cx 164 [Pt a 0,I d,I sp,zm nm,v] h (zq [I (A.len+1),I 0]) h'/\RA h' a n' i' JK (A.elem d sp nm l)/\Du h (JZ a n i) h' (JZ a n' i'):=by
 have z:=aDY hv hb yg h;let⟨u,r2,hu⟩:=aDZ hv hb h;have g:u.cells=[u]:=zt hu;let⟨h1,M,i1,m,w1,s⟩:=mg w Ab ⟨{kind:=4,CF:=d,A7:=sp,name:=nm,Aj:=Cz l},zo,u,zh ⟨rfl,rfl⟩,hu⟩;have B:∀{Q:HC} {h:Ah} {kk:Aa->IT},W cx (.BM 206 [I sp] kk) Q h↔W cx (kk (zj (decide (z6 sp)))) Q h:=(mf _).BM rfl rfl;have ND:(A.add {kind:=4,CF:=d,A7:=sp,name:=nm,Aj:=Cz l}).has (A.len+1):=D3.2 (zh rfl);have jJ:(A.add {kind:=4,CF:=d,A7:=sp,name:=nm,Aj:=Cz l}).has d:=D3.2 (z2 hd);have XF:(A.add {kind:=4,CF:=d,A7:=sp,name:=nm,Aj:=Cz l}).len=A.len+1:=by unfold Ar.add Ar.len;simp
 have f:=aLp (pR (ps++[⟨{kind:=4,CF:=d,A7:=sp,name:=nm,Aj:=Cz l},zo,u,zh ⟨rfl,rfl⟩,hu⟩]) (A.len+1)) h1;rw[(w1.pn ND).2,Jc,Af rfl] at f;have ld:=w1.aD0 ND;rw[RN.row] at m;rw[Ar.elem];simp only
 by_cases j:jG {kind:=4,CF:=d,A7:=sp,name:=nm,Aj:=Cz l};rotate_left;.rw[Ac j];rw[Al j] at f;refine⟨h1,M,i1,_,?_,w1,s⟩;simp only[Ad,jn,abS,zy,AQ,mh w hd hk,B3,B,As hs,z,r2,g,m,w1.nodes,w1.addr ND,ld,f]
 .rw[Af j];rw[As j] at f;generalize q:A.add {kind:=4,CF:=d,A7:=sp,name:=nm,Aj:=Cz l}=b at*;generalize ps++[(⟨{kind:=4,CF:=d,A7:=sp,name:=nm,Aj:=Cz l},zo,u,zh ⟨rfl,rfl⟩,hu⟩:RN)]=Yd at*;let⟨h2,O,P,ae,K,H,E⟩:=aLn w1 Ab jJ;have eH:(b.Dq d).len<=A.len+2:=by
   rw[Ar.Dq];split;.omega
   .rw[TZ,TZ];have:(b.add {kind:=1,CF:=b.len+1}).len=b.len+1:=by unfold Ar.add Ar.len;simp
    omega
  have Tf:(b.Dq d).has (A.len+1):=by
   rw[Ar.Dq];split;.exact ND
   .rw[QK,QK];exact D3.2 (z2 ND)
  let⟨R,L,i3,t,e,D⟩:=mg H Ab ⟨{kind:=2,EC:=A.len+1,CF:=b.FU d},zo,zo,zh ⟨rfl,rfl⟩,zh ⟨rfl,rfl⟩⟩;have c:((b.Dq d).add {kind:=2,EC:=A.len+1,CF:=b.FU d}).has (A.len+1):=D3.2 (z2 Tf);have aGQ:((b.Dq d).add {kind:=2,EC:=A.len+1,CF:=b.FU d}).nd (A.len+1)={kind:=4,CF:=d,A7:=sp,name:=nm,Aj:=Cz l}:=by
   have EH:=Tf.2;rw[Jc,Ac (by unfold Ar.len at EH⊢;omega)];have h0:b.nd (A.len+1)={kind:=4,CF:=d,A7:=sp,name:=nm,Aj:=Cz l}:=by rw[<-q,Jc,Af rfl]
   rw[Ar.Dq];split;.exact h0
   .rw[T0,T0,Jc,Ac Ab];exact h0
  have cT:=(e.pn c).2;rw[aGQ] at cT;let⟨N,J,F,C,_⟩:=e.wr c (k:=11) Bf (v:= I ((b.Dq d).len+1)) rfl (p:=⟨{kind:=4,CF:=d,A7:=sp,name:=nm,Aj:=Cz l,cont:=(b.Dq d).len+1},(pR _ (A.len+1)).kv,(pR _ (A.len+1)).av,by have:=e.NJ c;rwa[aGQ] at this,by have:=e.ç c;rwa[aGQ] at this⟩) (by simp only[RN.row];rw[cT];rfl);refine⟨N,L,i3,_,?_,F,((s.trans E).trans D).trans C⟩;rw[RN.row] at t;have o:=e.nodes;have r:=e.addr c;simp only[Ad,jn,abS,zy,AQ,mh w hd hk,B3,B,As hs,z,r2,g,m,w1.nodes,w1.addr ND,ld,f,K,t,o,r,J]
end
structure RX(h:Ah)(bi a:Nat)(o c t:Aa)(G:Nat->Prop)(b:BS):Prop where
 hb:h[bi]?=zx (z8 (JP a b o c t))
 o:BZ b.AI o
 t:Ec b.tm t
 w:RW h G a b.a
 nb:¬G bi
section
variable{h h':Ah}{bi a:Nat}{o c t:Aa}{G G' F:Nat->Prop}{b:BS}{x:Int}{m:Nat}
def RX.lt(w:RX h bi a o c t G b):bi<zz h:=(Aq.1 w.hb).1
def RX.Dj{h':Ah}(w:RX h bi a o c t G b)(hf:∀i,i=bi\/G i->h'[i]?=h[i]?):RX h' bi a o c t G b:=
 ⟨by rw[hf bi (z2 rfl)];exact w.hb,w.o,w.t,w.w.Dj λi hi=>hf i (zh hi),w.nb⟩
def RX.HY(w:RX h bi a o c t G b){u:Ah}:RX (h++u) bi a o c t G b:=w.Dj λi hi=>Ak (by obtain rfl|hi:=hi;exact w.lt;exact w.w.lt hi)
section
variable(w:RX h bi a o c t G b)
def RX.ld(k:Nat):A5 h zk (Pt bi k)=(JP a b o c t)[k]?:=by simp[A5,w.hb,Fu]
def RX.l0:A5 h zk (Pt bi 0)=zx (Pt a 0):=w.ld 0
def RX.l1:A5 h zk (Pt bi 1)=zx (I b.CF):=w.ld 1
def RX.l4:A5 h zk (Pt bi 4)=zx (I b.mode):=w.ld 4
def RX.l7:A5 h zk (Pt bi 7)=zx (I b.head):=w.ld 7
def RX.l9:A5 h zk (Pt bi 9)=zx (zj b.Mz):=w.ld 9
def RX.Ŀ:A5 h zk (Pt bi 15)=zx (zj b.Fe):=w.ld 15
def RX.l3:A5 h zk (Pt bi 3)=zx c:=w.ld 3
def RX.l6:A5 h zk (Pt bi 6)=zx t:=w.ld 6
def RX.tQ:At h bi 3 c:=⟨_,w.hb,rfl⟩
end
def RX.lq{A':Ar}(w:RX h bi a o c t G b)(hp:RW h' G' a A')(x:Du h G h' G'):RX h' bi a o c t G' {b with a:=A'}/\Du h (Bu bi G) h' (Bu bi G'):=
 ⟨⟨by rw[x.old bi w.lt w.nb];exact w.hb,w.o,w.t,hp,λhg=>by obtain h|h:=x.Bu bi hg;exact w.nb h;have:=w.lt;omega⟩,x.aDL⟩
def RX.C3(w:RX h bi a o c t G b){u:Ah}:Du h (Bu bi G) (h++u) (Bu bi G):= .HY
def RX.put{k:Nat}{v o' c' t':Aa}{b':BS}(w:RX h bi a o c t G b)(e:(JP a b o c t).set k v=JP a b' o' c' t')(ea:b'.a=b.a)(ho:BZ b'.AI o')(ht:Ec b'.tm t'):RX (yy h bi k v) bi a o' c' t' G b':=
 ⟨by rw[IM w.hb,e];exact AY w.lt,ho,ht,by rw[ea];exact w.w.Dj λi hi=>Ce λe=>w.nb (e▸hi),w.nb⟩
def RX.H5{u:Aa}{l:List Item}(w:RX h bi a o c t G b)(hu:BZ l u):RX (yy h bi 2 u) bi a u c t G {b with AI:=l}:=w.put rfl rfl hu w.t
def RX.KC{u:Aa}{l:List B5}(w:RX h bi a o c t G b):RX (yy h bi 3 u) bi a o u t G {b with AW:=l}:=w.put rfl rfl w.o w.t
def RX.st{k:Nat}{v v0:Aa}(w:RX h bi a o c t G b)(hk:(JP a b o c t)[k]?=zx v0)(hv:v.cells=[v]):Cy h 1 (Pt bi k) v=zx (yy h bi k v):=At.store (v:=v0) ⟨_,w.hb,hk⟩ hv
def RX.aBY(w:RX h bi a o c t G b):A5 h (zx 4) (Pt bi 10)=zx (zd b.ctx.row):=by simp only[A5,w.hb];rfl
def RX.tV(w:RX h bi a o c t G b)(v:Int):RX (yy h bi 4 (I v)) bi a o c t G {b with mode:=v}:=w.put rfl rfl w.o w.t
def RX.oS{u:Aa}{l:List Int}(w:RX h bi a o c t G b)(hu:Ec l u):RX (yy h bi 6 u) bi a o c u G {b with tm:=l}:=w.put rfl rfl w.o hu
def RX.step{A':Ar}{R:Ah->Prop}(w:RX h bi a o c t G b)(d:∀n i ps,RA h a n i ps b.a->∃h' n' i' JK,R h'/\RA h' a n' i' JK A'/\Du h (JZ a n i) h' (JZ a n' i')):
  ∃h' G',R h'/\RX h' bi a o c t G' {b with a:=A'}/\Du h (Bu bi G) h' (Bu bi G'):=by
 let⟨n,i,ps,g,e⟩:=w.w;let⟨h',n',i',JK,r,w',x⟩:=d n i ps g;let⟨j,f⟩:=w.lq (G':=JZ a n' i') ⟨n',i',JK,w',rfl⟩ (by rwa[e]);exact⟨h',_,r,j,f⟩
section
variable(w:RX h bi a o c t G b)
def Nf(x:Int):BK cx 208 [Pt bi 0,I x] h (I (b.a.nd x).kind) h:=by
 let⟨n,i,ps,d,e⟩:=w.w;rw[Ad,aAD];by_cases hx:b.a.has x;.simp only[abS,w.l0,H8 (x:=x) d,As hx,d.nodes,d.addr hx,d.f0 hx]
 .rw[H6 hx];simp[abS,w.l0,H8 (x:=x) d,Al hx]
def mj(x:Int):BK cx 213 [Pt bi 0,I x] h (I (if b.a.has x then(b.a.nd x).CF else b.CF)) h:=by
 let⟨n,i,ps,d,e⟩:=w.w;rw[Ad,aAH];by_cases hx:b.a.has x;.rw[Af hx];simp[abS,w.l0,H8 (x:=x) d,As hx,d.nodes,d.addr hx,d.f3 hx]
 .rw[Ac hx];simp[abS,w.l0,H8 (x:=x) d,Al hx,w.l1]
def aD3(x:Int)(ws:Ai)(hw:zz ws<9223372036854775806)(hn:(b.a.nd x).name.length<9223372036854775807):BK cx 231 [Pt bi 0,I x,zm ws] h (zj (decide ((b.a.nd x).kind=4/\(b.a.nd x).A7=1)&&GA ws (b.a.nd x).name)) h:=by
 let⟨n,i,ps,d,e⟩:=w.w;rw[Ad,aAV];by_cases hk:(b.a.nd x).kind=4
 .have hx:b.a.has x:=by
   by_cases hp:b.a.has x;.exact hp
   .rw[H6 hp] at hk;simp at hk
  have r2:∀{Q:HC} {h:Ah} {kk:Aa->IT},W cx (.BM 138 [zm ws,zm (b.a.nd x).name] kk) Q h↔W cx (kk (zj (GA ws (b.a.nd x).name))) Q h:=(aJu ws _ hw hn).BM rfl rfl;by_cases hs:(b.a.nd x).A7=1;.simp only[abS,Nf w x,AE hk,w.l0,d.nodes,d.addr hx,d.f4 hx,AE hs,d.f5 hx,r2,JO]
  .simp only[abS,Nf w x,AE hk,w.l0,d.nodes,d.addr hx,d.f4 hx,hs,JO]
 .simp only[abS,Nf w x,hk,JO]
def RX.oY(ok:BA b)(rm:B0 b m)(p x bf:Int):∃d h' G',BK cx 128 [Pt a 0,I p,I x,I bf] h (I d) h'/\RX h' bi a o c t G' {b with a:=b.a.Gs p x bf}/\Du h (Bu bi G) h' (Bu bi G'):=by
 have hk:∀y,(b.a.nd y).Be.length<=900000000:=λy=>Bv (aB ok.ok y) (by have:=rm.n;omega);let⟨h',G',⟨d,r⟩,w',x'⟩:=w.step (A':=b.a.Gs p x bf) (R:=λh'=>∃d:Int,BK cx 128 [Pt a 0,I p,I x,I bf] h (I d) h') λn i ps e=>by let⟨d,h',JK,r,w',x'⟩:=aLe (p:=p) (x:=x) (b:=bf) e ok.ok hk;exact⟨h',n,i,JK,⟨d,r⟩,w',x'⟩
 exact⟨d,h',G',r,w',x'⟩
def RX.self{A':Ar}(e:A'=b.a):RX h bi a o c t G {b with a:=A'}:=by subst e;exact w
end
def ml(w:RX h bi a o c t G b)(ok:BA b)(rm:B0 b m)(p x bf:Int):∃h' G',BK cx 165 [Pt bi 0,I p,I x,I bf] h (zq []) h'/\RX h' bi a o c t G' {b with a:=b.a.ES x p bf}/\Du h (Bu bi G) h' (Bu bi G'):=by
 let⟨s,h1,l,g,w1,f⟩:=w.oY ok rm p x bf;by_cases hp:(b.a.nd p).kind=1;rotate_left
 .have e:b.a.ES x p bf=b.a.Gs p x bf:=by rw[Ar.ES];rw[Ac λh=>hp h.1]
  refine⟨h1,l,?_,by rwa[e],f⟩;simp[Ad,kD,abS,Nf w p,hp,w.l0,g]
 by_cases hx:(b.a.nd x).kind=4;rotate_left
 .have e:b.a.ES x p bf=b.a.Gs p x bf:=by rw[Ar.ES];rw[Ac λh=>hx h.2.1]
  refine⟨h1,l,?_,by rwa[e],f⟩;simp[Ad,kD,abS,Nf w p,AE hp,Nf w x,hx,w.l0,g]
 have Re:(b.a.nd p).Be.length<=1000000000:=Bv (aB ok.ok p) (by have:=rm.n;omega);obtain⟨kv,r2,lp⟩:∃v,BK cx 211 [Pt a 0,I p] h v h/\Ec (b.a.nd p).Be v:=by let⟨n,i,ps,q,_⟩:=w.w;exact Ć q Re
 have IJ:Ev cx 165 [Pt bi 0,I p,I x,I bf] h λr h'=>r= zq []/\∃G',RX h' bi a o c t G' {b with a:=b.a.ES x p bf}/\Du h (Bu bi G) h' (Bu bi G'):=by
  rw[Ev];have hvl:=z3 lp;simp only[kD,abS,Nf w p,AE hp,Nf w x,AE hx,w.l0,r2];refine Bj (λk:Nat=>[I (k:Int)]) (λk h1=>k<=(b.a.nd p).Be.length/\(∀y∈(b.a.nd p).Be.take k,¬(b.a.nd y).kind=4)/\h1=h) (λk=>(b.a.nd p).Be.length-k) 0 rfl ⟨AV _,λy hy=>by simp at hy,rfl⟩ ?_;rintro k h2 ⟨hk,ha,rfl⟩;obtain hlt|Et:=AP k (b.a.nd p).Be.length
  .have j:=z0 (k:= za) lp hlt;rw[Cb] at j;by_cases d:(b.a.nd (b.a.nd p).Be[k]).kind=4
   .have e:b.a.ES x p bf=b.a:=by rw[Ar.ES];rw[Af ⟨hp,hx,_,AN hlt,d⟩]
    simp only[abS,hvl,(Ab:(k:Int)<((b.a.nd p).Be.length:Int)),j,Nf w _,AE d];exact⟨_,rfl,rfl,G,w.self e,.refl⟩
   .simp only[abS,hvl,(Ab:(k:Int)<((b.a.nd p).Be.length:Int)),j,Nf w _,d,By k];refine zr (k+1) rfl ⟨hlt,λy hy=>?_,rfl⟩ Ab;rw[AB hlt] at hy;obtain hy|hy:=Ay.1 hy
    .exact ha y hy
    .rw[AM] at hy;rwa[hy]
  .rw[AF Et] at ha;have e:b.a.ES x p bf=b.a.Gs p x bf:=by rw[Ar.ES];rw[Ac λh=>by let⟨_,_,y,hy,d⟩:=h;exact ha y hy d]
   simp only[abS,hvl,(Ab:¬(k:Int)<((b.a.nd p).Be.length:Int)),w.l0,g];exact⟨_,rfl,rfl,l,by rwa[e],f⟩
 obtain⟨r,h',hr,rfl,G',w',x'⟩:=IJ.ret;exact⟨h',G',hr,w',x'⟩
def aLq{v:Aa}{l:List Int}(hv:Ec l v)(hb:zz l<=1000000000)(x:Int)(h:Ah):BK cx 212 [v,I x] h (I (Cn (λy=>decide (x=y)) 0 l)) h:=by
 rw[Ad,aAG];have hvl:=z3 hv;refine Bj (λk:Nat=>[I 0,I (k:Int)]) (λk h1=>k<=zz l/\Cn (λy=>decide (x=y)) 0 l=Cn (λy=>decide (x=y)) k (l.drop k)/\h1=h) (λk=>zz l-k) 0 rfl ⟨AV _,rfl,rfl⟩ ?_;rintro k h1 ⟨hk,ha,rfl⟩;obtain hlt|Et:=AP k (zz l)
 .have d:=z0 (k:= za) hv hlt;rw[Cb] at d;rw[AG hlt,Cn] at ha;simp[abS,hvl,(Ab:(k:Int)<(zz l:Int)),d,By k];refine⟨λh2=>?_,λh2=>?_⟩;.rw[ha,Af (by simp[h2])]
  .rw[Ac (by simpa using λe=>h2 e.symm)] at ha;exact zr (k+1) rfl ⟨hlt,ha,rfl⟩ Ab
 .rw[AT Et,Cn] at ha;simp[abS,hvl,(Ab:¬(k:Int)<(zz l:Int)),ha]
section
variable(w:RX h bi a o c t G b)
def ć(x:Int):BK cx 410 [Pt a 0,I x] h (I (b.a.nd x).Gm) h:=by let⟨n,i,ps,d,_⟩:=w.w;exact aK8 d
def Ĉ(rm:B0 b m):BK cx 220 [Pt bi 0] h (zd (DB b.AI).row) h:=by have ho:=rm.AI;have ld:A5 h zk (Pt bi 2)=zx o:=w.ld 2;simp only[Ad,jr,BD,ER,ld,aJD w.o Ab]
def aLr(rm:B0 b m):BK cx 347 [Pt bi 0] h (zq [I b.KB.1,I b.KB.2]) h:=by
 have hl:=rm.AI;have ld:A5 h zk (Pt bi 2)=zx o:=w.ld 2;have f:=aBI (h:=h) w.o Ab Fw;have r2:=aBI (h:=h) w.o Ab AO;have b1:=Ls (q:=AU [Fw]) (l:=b.AI);have b2:=Ls (q:=AU [AO]) (l:=b.AI);have at_:∀k:Nat,k<zz b.AI->AA (.EE 4) [o,I (k:Int)]=zx (.CH [I (Dc b.AI k).node,I (Dc b.AI k).A7,zm (Dc b.AI k).name,zj (Dc b.AI k).NM]):=λk hk=>by have:=z0 (k:= za) w.o hk;rw[FG hk,this];rfl
 rw[BS.KB];simp only
 generalize AZ (AU [Fw]) b.AI=i at f b1⊢;generalize AZ (AU [AO]) b.AI=d at r2 b2⊢;rw[Ad,aBg];by_cases h1:i<d;.obtain⟨k,rfl⟩:∃k:Nat,d=(k:Int):=⟨d.toNat,Ab⟩;simp[Af h1,abS,ld,r2,BN,f,MW,h1,A8,at_ k Ab,JO]
 .rw[Ac h1];by_cases h2:i<0;.rw[Af h2];by_cases h0:(0:Int)<=d<;>simp only[abS,ER,r2,BN,f,h0,h1,A8,JO,h2,ld,aF9 (h:=h) w.o 0]
  .obtain⟨k,rfl⟩:∃k:Nat,i=(k:Int):=⟨i.toNat,Ab⟩;rw[Ac h2];by_cases g:(b.a.nd (Dc b.AI k).node).Gm=0
   .rw[Ac (zv g)];by_cases j:k=0
    .have e:max ((k:Int)-1) 0=(k:Int):=by omega
     by_cases h0:(0:Int)<=d<;>simp only[abS,ER,r2,BN,f,h0,h1,A8,JO,(Ab:¬(k:Int)<0),ld,at_ k Ab,w.l0,ć w _,g,B3,AE (Ab:(k:Int)=0),e]
    .have hd:=IK (n:=k) Ab Ab;have e:max ((k:Int)-1) 0=((k-1:Nat):Int):=Ab;by_cases h0:(0:Int)<=d<;>simp only[abS,ER,r2,BN,f,h0,h1,A8,JO,(Ab:¬(k:Int)<0),ld,at_ k Ab,w.l0,ć w _,g,B3,(Ab:¬(k:Int)=0),hd,at_ (k-1) Ab,e]
   .rw[Af g];by_cases h0:(0:Int)<=d<;>simp only[abS,ER,r2,BN,f,h0,h1,A8,JO,h2,ld,at_ k Ab,w.l0,ć w _,g,B3]
end
end
def ĉ{s:Ai}:GA aXU s=decide (s∈Ie):=El Bx Bx
def aCg{s:Ai}:GA aXs s=decide (s∈[AO]):=El Bx Bx
def fU{A:Ar}{y:Int}{ws:List Ai}{q:Bool}(hq:q=decide ((A.nd y).name∈ws)):(decide ((A.nd y).kind=4/\(A.nd y).A7=1)&&q)=decide (T2 ws A y):=by subst hq;rw[<-Bool.decide_and];rw[Ds];rw[T2];exact⟨λh=>⟨h.1.1,h.1.2,h.2⟩,λh=>⟨⟨h.1,h.2.1⟩,h.2.2⟩⟩
def L6{A:Ar}(ok:E1 A 0)(y:Int):(A.nd y).cont≠0↔T2 [AO] A y:=by
 by_cases hy:A.has y
 .constructor;.intro h;have:=(ok.T1 y hy).Ws h;exact⟨this.1,this.2.1,by rw[this.2.2];simp⟩
  .intro h;exact ok.Rs y hy (by have:=hy.1;omega) ⟨h.1,h.2.1,zv h.2.2⟩
 .rw[H6 hy];constructor;.intro h;simp at h
  .intro h;have:=h.1;rw[H6 hy] at this;simp at this
section
variable{h h':Ah}{bi a:Nat}{o c t:Aa}{G G' F:Nat->Prop}{b:BS}{x:Int}{m:Nat}
section
variable(w:RX h bi a o c t G b)(hnm:∀x,(b.a.nd x).name.length<=1000)(x:Int)
def aLs:BK cx 231 [Pt bi 0,I x,S aXU] h (zj (decide (T2 Ie b.a x))) h:=by have:=aD3 w x aXU Bf (by have:=hnm x;omega);rwa [fU ĉ] at this
def aD4:BK cx 231 [Pt bi 0,I x,S aXs] h (zj (decide (T2 [AO] b.a x))) h:=by have:=aD3 w x aXs Bf (by have:=hnm x;omega);rwa [fU aCg] at this
end
def mm(w:RX h bi a o c t G b)(ok:BA b)(rm:B0 b m)(hnm:∀x,(b.a.nd x).name.length<=1000)(x:Int):BK cx 207 [Pt bi 0,I x] h (zq [I (b.place x).1,I (b.place x).2]) h:=by
 have ho:=rm.AI;have ld:A5 h zk (Pt bi 2)=zx o:=w.ld 2;have lo:=z3 w.o;have p:=Ĉ w rm;have r2:=aLr w rm;let⟨n,i,ps,f,_⟩:=w.w;rw[Ad,aAC];by_cases he:x=0/\b.AI=[]
 .have e:b.place x=(b.CF,0):=by unfold BS.place;rw[Af he]
  have q:AA (yu zs) [o]=zx (I 0):=by rw[lo,he.2];rfl
  simp only[e,abS,AE he.1,ld,q,w.l1,A8]
 obtain⟨t',FX⟩:∃t',t'=if x=0 then(DB b.AI).node else x:=⟨_,rfl⟩
 obtain⟨pb,fB⟩:∃pb:Int×Int,pb=if b.Fe=z9/\T2 Ie b.a t' then b.KB else(t',0):=⟨_,rfl⟩
 have e:b.place x=if(b.a.nd pb.1).cont≠0 then((b.a.nd pb.1).cont,0) else pb:=by unfold BS.place;rw[Ac he];simp only;rw[<-FX,<-fB]
 have k:=aLs w hnm t';have d:=aD4 w hnm pb.1;have Ut:=w.Ŀ;have qY:x=0->¬(zz b.AI:Int)=0:=λh0 h1=>he ⟨h0,Ms.1 Ab⟩;rw[e];cases l:b.Fe with
 |false=>
  rw[l] at Ut;rw[Ac (by rw[l];intro h;cases Bf h.1)] at fB;subst fB;simp only at d⊢;by_cases g:T2 [AO] b.a t'
  .have hc:=(L6 ok.ok t').2 g;have j:b.a.has t':=by
    by_cases hp:b.a.has t';.exact hp
    .have:=g.1;rw[H6 hp] at this;simp at this
   rw[As g] at d;rw[Af hc];by_cases Ov:x=0;.rw[Af Ov] at FX;subst FX;simp only[abS,ER,AE Ov,ld,lo,qY Ov,p,A8,Ut,d,w.l0,f.nodes,f.addr j,f.f11 j]
   .rw[Ac Ov] at FX;subst FX;simp[abS,Ov,A8,Ut,d,w.l0,f.nodes,f.addr j,f.f11 j]
  .have hc:=λh=>g ((L6 ok.ok t').1 h);rw[Al g] at d;rw[Ac hc];by_cases Ov:x=0;.rw[Af Ov] at FX;subst FX;simp only[abS,ER,AE Ov,ld,lo,qY Ov,p,A8,Ut,d]
   .rw[Ac Ov] at FX;subst FX;simp only[abS,Ov,A8,Ut,d]
 |true=>
  rw[l] at Ut;by_cases hw:T2 Ie b.a t'
  .rw[Af ⟨l,hw⟩] at fB;subst fB;rw[As hw] at k;by_cases g:T2 [AO] b.a b.KB.1
   .have hc:=(L6 ok.ok b.KB.1).2 g;have j:b.a.has b.KB.1:=by
     by_cases hp:b.a.has b.KB.1;.exact hp
     .have:=g.1;rw[H6 hp] at this;simp at this
    rw[As g] at d;rw[Af hc];by_cases Ov:x=0;.rw[Af Ov] at FX;subst FX;simp only[abS,ER,AE Ov,ld,lo,qY Ov,p,A8,Ut,k,r2,d,w.l0,f.nodes,f.addr j,f.f11 j]
    .rw[Ac Ov] at FX;subst FX;simp only[abS,Ov,A8,Ut,k,r2,d,w.l0,f.nodes,f.addr j,f.f11 j]
   .have hc:=λh=>g ((L6 ok.ok b.KB.1).1 h);rw[Al g] at d;rw[Ac hc];by_cases Ov:x=0;.rw[Af Ov] at FX;subst FX;simp only[abS,ER,AE Ov,ld,lo,qY Ov,p,A8,Ut,k,r2,d]
    .rw[Ac Ov] at FX;subst FX;simp only[abS,Ov,A8,Ut,k,r2,d]
  .rw[Ac (λh=>hw h.2)] at fB;subst fB;rw[Al hw] at k;simp only at d⊢;by_cases g:T2 [AO] b.a t'
   .have hc:=(L6 ok.ok t').2 g;have j:b.a.has t':=by
     by_cases hp:b.a.has t';.exact hp
     .have:=g.1;rw[H6 hp] at this;simp at this
    rw[As g] at d;rw[Af hc];by_cases Ov:x=0;.rw[Af Ov] at FX;subst FX;simp only[abS,ER,AE Ov,ld,lo,qY Ov,p,A8,Ut,k,d,w.l0,f.nodes,f.addr j,f.f11 j]
    .rw[Ac Ov] at FX;subst FX;simp only[abS,Ov,A8,Ut,k,d,w.l0,f.nodes,f.addr j,f.f11 j]
   .have hc:=λh=>g ((L6 ok.ok t').1 h);rw[Al g] at d;rw[Ac hc];by_cases Ov:x=0;.rw[Af Ov] at FX;subst FX;simp only[abS,ER,AE Ov,ld,lo,qY Ov,p,A8,Ut,k,d]
    .rw[Ac Ov] at FX;subst FX;simp only[abS,Ov,A8,Ut,k,d]
end
def Nm(A:Ar):Prop:=∀x,(A.nd x).name.length<=1000
section
variable{A A':Ar}{b:BS}{q:uF}{m j:Nat}{nm:Ai}{l:List A9}{sp p x:Int}
section
variable(h:Nm A)
def Nm.le(hl:Le A A')(hn:zz A'.n=zz A.n):Nm A':=λy=>by
 by_cases hy:A.has y;.rw[hl.name y hy];exact h y
 .have:¬A'.has y:=by rw[Ar.has] at hy⊢;rwa[hn]
  rw[H6 this];simp
def Nm.add{y:Fc}(hy:zz y.name<=1000):Nm (A.add y):=λx=>by
 rw[Jc];split;.exact hy
 .exact h x
def Nm.set{y:Fc}{k:Int}(hy:zz y.name<=1000):Nm (A.set k y):=λx=>by
 rw[Kf];split;.exact hy
 .exact h x
def Nm.Jy{k v:Int}:Nm (A.Jy k v):=λx=>by rw[T0];exact h x
def Nm.Gs{bf:Int}:Nm (A.Gs p x bf):=h.le Pg (Ku (A:=A)).n
def Nm.ES{bf:Int}:Nm (A.ES x p bf):=h.le Jz (Kv (A:=A)).n
def Nm.Dq{d:Int}:Nm (A.Dq d):=by
 rw[Ar.Dq];split;.exact h
 .exact(h.add AH).Jy.Jy
def Nm.elem{d:Int}(hn:zz nm<=1000):Nm (A.elem d sp nm l):=by
 have h1:Nm (A.add {kind:=4,CF:=d,A7:=sp,name:=nm,Aj:=Cz l}):=h.add hn;rw[Ar.elem];simp only
 split;.exact(h1.Dq.add AH).set hn
 .exact h1
end
section
variable(h:Nm b.a)(hn:nm.length<=1000)
def Nm.mk:Nm (b.Ex nm l sp p).a:=by
 rw[BS.Ex];split;.exact h.elem (by rwa[ZN])
 .exact h
def Nm.L9:Nm (b.D9 nm l sp).a:=by
 rw[BS.D9];split;.exact(h.mk hn).ES
 .exact h
end
def Nm.Mh(h:Nm A){s:Ai}{bf:Int}:Nm (BS.Mh A s p bf):=by
 rw[BS.Mh];split
 .split
  .split;.exact h.set (h _)
   .exact(h.add AH).ES
  .exact(h.add AH).ES
 .exact h
def Nm.Fp(h:Nm A){s:Ai}{bf:Int}:Nm (BS.Fp A s p bf):=by
 rw[BS.Fp];split;.exact(h.add AH).ES
 .exact h
def Nm.Ih:∀{l:List B5} {b:BS},Nm b.a->(∀e∈l,zz e.name<=1000)->Nm (BS.Ih l b).2.a
 |[],b,h,_=>h
 |e::l,b,h,hl=>by rw[BS.Ih];exact Nm.Ih (h.L9 (hl e AH)) λx hx=>hl x (by simp[hx])
def Nm.EG(h:Nm b.a):Nm (b.EG l x).a:=by
 rw[BS.EG];split;.exact h.set (h _)
 .exact h
def Nm.FJ{blk anc:Int}{far i:Nat}{l:Int}{mk:Nat}(h:Nm b.a)(r:B0 b m):Nm (yx blk anc far i b l mk).1.a:=by
 rw[yx];simp only
 split;.exact h
 .split;.exact h
  next he _=>let⟨p,hp,c,_,_,_⟩:=GZ (JR.1 he);rw[c,A3,AS,An hp,FE];exact(h.mk (r.DL _ (AN hp)).1).Gs
def Nm.K4{blk anc:Int}{far k m:Nat}:∀{c:Nat} {s:BS×Int×Nat},Nm s.1.a->B0 s.1 (m+4*c)->Nm (BS.K4 blk anc far k c s).1.a
 |0,s,h,_=>h
 |c+1,s,h,r=>Nm.K4 (c:=c) (h.FJ r) (Pp (m:=m+4*c) (r.le Ab))
def Nm.CE{n:Int}:∀{l:List Int} {A:Ar},Nm A->Nm (yz A n l)
 |[],A,h=>h
 |y::l,A,h=>Nm.CE (l:=l) (h.Gs (p:=n) (x:=y) (bf:=0))
def Nm.Hh{fe:B5}{blk anc:Int}{s:BS×Int×Nat}(h:Nm s.1.a)(K6:zz fe.name<=1000):Nm (BS.Hh fe blk anc s).a:=by
 rw[BS.Hh];simp only
 generalize fB:s.1.place anc=pb;have h2:Nm (s.1.a.ES s.2.1 pb.1 pb.2):=h.ES;have c:=Nm.mk (b:={s.1 with a:=s.1.a.ES s.2.1 pb.1 pb.2}) (nm:=fe.name) (l:=fe.Aj) (sp:=1) (p:=blk) h2 K6;exact(Nm.CE c).Gs
def Nm.round(h:Nm b.a)(r:B0 b (m+4*zz b.AI+10)):Nm (b.round nm).2.a:=by
 rw[BS.round];simp only
 split
 .have:(b.Dz nm).a=b.a:=by
   rw[BS.Dz];split;.split<;>rfl
   .rfl
  rwa[this]
 .rename_i hf;let⟨f,HB,c⟩:=OH (JR.1 hf);have Yg:b.AW.getD (DT nm b.AW).toNat B5.zero=b.AW[f]:=by rw[c,A3,AS,An HB];rfl
  have K6:=r.DL _ (AN HB);rw[Yg];split;.exact h
  .split;.exact h
   .split;.exact h
    .have hlt:(Eg b.AW[f].node b.AI).toNat-1 -(AZ (BE b.AW[f].node) b.AI).toNat<=zz b.AI:=by
      rw[Jb];split;.omega
      .unfold Fm;split;.rename_i j hj;have:=(E4.1 hj).1;rw[Bi] at this;omega
       .omega
     exact Nm.Hh (Nm.K4 (m:=m) h (r.le Ab)) K6.1
def Nm.En:∀{n:Nat} {b:BS} {k:Nat},Nm b.a->zz b.AI<=k->B0 b (m+n*(4*(k+n)+10))->Nm (BS.En n b nm).a
 |0,b,k,h,hk,r=>h
 |n+1,b,k,h,hk,r=>by
  have e:(n+1)*(4*(k+(n+1))+10)=n*(4*(k+1+n)+10)+(4*(k+(n+1))+10):=by rw[B9,Gd,(Ab:k+(n+1)=k+1+n)]
  rw[e] at r;have h1:=Pq (m:=m+n*(4*(k+1+n)+10)) (r.le Ab) nm;have h2:=h.round (m:=m+n*(4*(k+1+n)+10)) (nm:=nm) (r.le Ab);unfold BS.En;simp only
  split;.exact Nm.En (n:=n) (k:=k+1) h2 Ab h1.1
  .exact h2
def aGR(h:Nm b.a)(sz:Sz b (j+1))(hq:ug q):Nm (aG b q).1.a:=aH (P:=λr=>Nm r.1.a)
 (h.L9 hq.name)
 (h.L9 hq.name)
 (Nm.L9 (b:=b) (sp:=1) (l:=q.Aj) h hq.name)
 (h.Mh)
 (by
  dsimp only;rw[BS.HN];split;.exact h.Fp
  .exact h.Fp)
 (Nm.L9 (b:=b) (sp:=1) (l:=q.Aj) h hq.name)
 (by
  dsimp only;rw[BS.BH];split;.exact h
  .exact h)
 (Nm.Ih h λe he=>(sz.rm.DL e (BO he)).1)
 (by
  dsimp only;rw[BS.Dz];split
  .split;.exact h
   .exact h
  .exact h)
 (by
  dsimp only;rw[BS.CI];split
  .unfold BS.IW;split;.exact h
   .exact h
  .exact Nm.En (n:=8) (k:=zz b.AI) (m:=5000000*j) h (Ae _) (sz.rm.le (by have:=sz.AI;omega)))
 h
 (h.EG)
 (by
  dsimp only;rw[BS.CT];split;.exact h
  .exact h)
 h
 h
 h
 h
 (by
  dsimp only;rw[BS.IW];split;.exact h
  .exact h)
 h
 h
 h
 h
 h
 (h.mk hq.name)
 h
def mn(q:Bool):Nm (DJ q).a:=λx=>by rw[Ps];split<;>simp
def Ċ(s:Fg):Nm s.b.a:=by
 have d:Nm (JL s.A7 s.name s.Aj s.Cs).a:=((mn s.Cs).mk (nm:=DQ) Bf).ES;have c:Nm (Mr s.A7 s.name s.Aj s.Cs).a:=by rw[Mr];split<;>exact d
 unfold Fg.b VG;split
 .split;.exact c
  .exact c
 .exact mn _
end
section
variable{h h':Ah}{bi a:Nat}{o c t:Aa}{G G' F:Nat->Prop}{b:BS}{x:Int}{m:Nat}
variable{nm:Ai}{av:Aa}{l:List A9}{r:List Aa}{sp p:Int}
def aGS(ok:BA b)(y:Int):(if b.a.has y then(b.a.nd y).CF else b.CF)=if(b.a.nd y).CF≠0 then(b.a.nd y).CF else b.CF:=by
 by_cases hy:b.a.has y;.have:=(ok.ok.CF y hy).1.1;rw[Af hy,Af Ab]
 .rw[Ac hy,H6 hy,Ac AH]
def aCh(w:RX h bi a o c t G b)(ok:BA b)(rm:B0 b (m+3))(hnm:Nm b.a)(hr:OG nm av r)(hv:AL l av)(hl:DV l)(hn:zz nm<=1000)(p sp:Int):
  ∃h' G',BK cx 103 [Pt bi 0,zd r,I sp,I p] h (zd (b.Hb nm l sp).row) h'/\RX h' bi a o c t G' (b.Ex nm l sp p)/\Du h (Bu bi G) h' (Bu bi G'):=by
 obtain⟨P,O,N,M,L,K,J,H,SM,TO,rfl⟩:=hr;have s:∀{Q:HC} {h:Ah} {kk:Aa->IT},W cx (.BM 206 [I sp] kk) Q h↔W cx (kk (zj (decide (z6 sp)))) Q h:=(mf _).BM rfl rfl;by_cases hs:z6 sp;rotate_left
 .refine⟨h,G,?_,by rw[BS.Ex];rwa[Ac hs],.refl⟩;have e:b.Hb nm l sp=Item.zero:=by rw[BS.Hb];rw[Ac hs]
  simp only[e,N7,Ad,i_,abS,↓reduceIte,AQ,s,Al hs]
 let⟨u,v,hu⟩:=aPz (h:=h) hv (λy hy=>(hl.2 y hy).1) hl.1 sp;have hd:=Rw ok (p:=p);have B:∀y∈l.map (C2 sp),z6 y.A7:=by intro y hy;obtain⟨z,_,rfl⟩:=Bs.1 hy;exact jM
 have hlen:(l.map (C2 sp)).length<=1000000000:=by rw[Ao];have:=hl.1;omega
 let⟨h',G',j,E,D⟩:=w.step (A':=b.a.elem (b.Jd p) sp (z5 sp nm) (l.map (C2 sp))) (R:=λh'=>BK cx 164 [Pt a 0,I (b.Jd p),I sp,zm (z5 sp nm),u] h (zq [I (b.a.len+1),I 0]) h') λn i ps f=>by let⟨h',n',i',JK,r,wp,C⟩:=aD1 (nm:=z5 sp nm) f (rm.len Ab) hd.1 hd.2 hs hu hlen B;exact⟨h',n',i',JK,r,wp,C⟩
 have PH:=ZN (sp:=sp) (nm:=nm);have g:=aJy (h:=h') hu (λy hy=>by obtain⟨z,hz,rfl⟩:=Bs.1 hy;rw[fE];have:=(hl.2 z hz).2;have:A0=140737488355328:=rfl;omega) Ab sp (z5 sp nm) Ab;have em:AA (.EM [I 0,I 0,S [],ff] [(0,1),(1,1),(2,1),(3,1)]) [I (b.a.len+1),I sp,zm (z5 sp nm),zj (Fl sp (z5 sp nm) (l.map (C2 sp)))]=zx (zd (b.Hb nm l sp).row):=by rw[eU];rw[BS.Hb];rw[Af hs]
 have q:=aD4 w hnm p;refine⟨h',G',?_,by rw[BS.Ex];rwa[Af hs],D⟩;have fO:=λ(y:Item)=>@Item.CS y;let⟨n,i,ps,f,_⟩:=w.w;have key:∀(Q:HC) (kk:Dm->List Aa->IT) (p':Int),p'=(if T2 [AO] b.a p then(b.a.nd p).cont else p)->(if b.a.has p' then(b.a.nd p').CF else b.CF)=b.Jd p:=by
  intro Q kk p' e;rw[aGS ok];rw[BS.Jd];by_cases d:T2 [AO] b.a p;.rw[Af d] at e;subst e;rw[Af ((L6 ok.ok p).2 d)]
  .rw[Ac d] at e;subst e;rw[Ac (λh=>d ((L6 ok.ok p').1 h))]
 have key:=key (λ_ _ _=>True) (λ_ _=> .fail);rw[Ad,i_];by_cases d:T2 [AO] b.a p
 .have A:b.a.has p:=by
   by_cases hp:b.a.has p;.exact hp
   .have:=d.1;rw[H6 hp] at this;simp at this
  have k:=mj w (b.a.nd p).cont;rw[key _ (Af d).symm] at k;rw[As d] at q;by_cases h2:sp=2
  .have e:z5 sp nm=Cq nm Jt:=by rw[z5];rw[Af h2]
   rw[e] at j g em;simp only[abS,AQ,ER,s,As hs,v,AE h2,(aJw nm).BM rfl rfl,A8,q,w.l0,f.nodes,f.addr A,f.f11 A,k,BN,j,g,em,fO]
  .have e:z5 sp nm=nm:=by rw[z5];rw[Ac h2]
   rw[e] at j g em;simp only[abS,AQ,ER,s,As hs,v,h2,A8,q,w.l0,f.nodes,f.addr A,f.f11 A,k,BN,j,g,em,fO]
 .have k:=mj w p;rw[key _ (Ac d).symm] at k;rw[Al d] at q;by_cases h2:sp=2
  .have e:z5 sp nm=Cq nm Jt:=by rw[z5];rw[Af h2]
   rw[e] at j g em;simp only[abS,AQ,ER,s,As hs,v,AE h2,(aJw nm).BM rfl rfl,A8,q,w.l0,k,BN,j,g,em,fO]
  .have e:z5 sp nm=nm:=by rw[z5];rw[Ac h2]
   rw[e] at j g em;simp only[abS,AQ,ER,s,As hs,v,h2,A8,q,w.l0,k,BN,j,g,em,fO]
end
section
variable{h h':Ah}{bi a:Nat}{o c t:Aa}{G G' F:Nat->Prop}{b:BS}{x:Int}{m:Nat}
variable{nm:Ai}{av:Aa}{l:List A9}{r:List Aa}{sp p:Int}
def aGT(w:RX h bi a o c t G b)(ok:BA b)(rm:B0 b (m+4))(hnm:Nm b.a)(hr:OG nm av r)(hv:AL l av)(hl:DV l)(hn:zz nm<=1000)(sp:Int):
  ∃h' o' G',BK cx 86 [Pt bi 0,zd r,I sp] h (I (b.M5 sp)) h'/\RX h' bi a o' c t G' (b.D9 nm l sp)/\Du h (Bu bi G) h' (Bu bi G'):=by
 have cF:A0=140737488355328:=rfl;have ho:=rm.AI;have g:∀{Q:HC} {h:Ah} {kk:Aa->IT},W cx (.BM 206 [I sp] kk) Q h↔W cx (kk (zj (decide (z6 sp)))) Q h:=(mf _).BM rfl rfl;have Gy:=hr;obtain⟨L,K,J,H,E,D,C,B,SM,TO,rfl⟩:=hr;by_cases hs:z6 sp;rotate_left
 .refine⟨h,o,G,?_,by rw[BS.D9];rwa[Ac hs],.refl⟩;have e:b.M5 sp=0:=by rw[BS.M5];rw[Ac hs]
  simp[e,Ad,Ö,abS,g,Al hs]
 have s:=mm w ok rm hnm 0;let⟨h1,M,r2,w1,j⟩:=aCh (m:=m+1) w ok (rm.le Ab) hnm Gy hv hl hn (b.place 0).1 sp;have Xl:=Y_ (nm:=nm) (at_:=l) (p:=(b.place 0).1) ok hs;have aq:=JB (m:=m+1) (nm:=nm) (sp:=sp) (p:=(b.place 0).1) (rm.le Ab) hl;have aC:(b.Hb nm l sp).node=b.a.len+1:=by rw[BS.Hb];rw[Af hs]
 have OQ:(b.Ex nm l sp (b.place 0).1).AI=b.AI:=by rw[BS.Ex];rw[Af hs]
 let⟨h2,A,q,d,i⟩:=ml w1 Xl aq (b.place 0).1 (b.Hb nm l sp).node (b.place 0).2;have ld:A5 h2 zk (Pt bi 2)=zx o:=d.ld 2;let⟨u,z,hu⟩:=AX.Gg (b:=40) d.o (by simp[OQ];omega);have v:=AX.JU (f:=Item.row) (b:=40) (a:=b.Hb nm l sp) hu (by simp[OQ];omega);have Ja:BZ (({b.Ex nm l sp (b.place 0).1 with a:=(b.Ex nm l sp (b.place 0).1).a.ES (b.Hb nm l sp).node (b.place 0).1 (b.place 0).2}:BS).AI++[b.Hb nm l sp]) _:=AX.mk;have n:=d.H5 Ja;have e:b.M5 sp=(b.Hb nm l sp).node:=by rw[BS.M5];rw[Af hs,aC]
 refine⟨_,_,A,?_,by rw[BS.D9];rw[Af hs];simp only;rwa[<-aC],(j.trans i).trans Bd⟩;have em:AA (.Dk 4) [zd (b.Hb nm l sp).row]=zx (.sl 4 [(b.Hb nm l sp).row]):=M2;have fO:=λ(y:Item)=>@Item.CS y;simp only[e,Ad,Ö,abS,ER,g,As hs,s,r2,fO,q,ld,z,em,v,d.st (k:=2) (v0:=o) rfl (zt Ja)]
def um(w:RX h bi a o c t G b)(ok:BA b)(rm:B0 b (m+4))(hnm:Nm b.a)(hr:OG nm av r)(hv:AL l av)(hl:DV l)(hn:zz nm<=1000):
  ∃h' o' G',BK cx 85 [Pt bi 0,zd r] h (I (b.a.len+1)) h'/\RX h' bi a o' c t G' (b.D9 nm l 1)/\Du h (Bu bi G) h' (Bu bi G'):=by
 let⟨h',o',G',d,w',x'⟩:=aGT w ok rm hnm hr hv hl hn 1;refine⟨h',o',G',?_,w',x'⟩;have e:b.M5 1=b.a.len+1:=by rw[BS.M5];rw[Af Kn]
 rw[e] at d;obtain⟨s,q,n,k,j,i,g,f,SM,TO,rfl⟩:=hr;simp[Ad,aFQ,BD,d]
def aQm(w:RX h bi a o c t G b):∃h',BK cx 98 [Pt bi 0] h (zq []) h'/\RX h' bi a o c t G {b with stop:=z9}/\Du h (Bu bi G) h' (Bu bi G):=by refine⟨_,?_,w.put (k:=19) (v:= zj z9) rfl rfl w.o w.t,Bd⟩;simp[Ad,aFW,BD,w.st (k:=19) (v:=tt) rfl rfl]
end
section
variable{h h':Ah}{bi a:Nat}{o c t:Aa}{G G' F:Nat->Prop}{b:BS}{x:Int}{m:Nat}
variable{nm:Ai}{av:Aa}{l:List A9}{r:List Aa}{sp p:Int}
def aLt(w:RX h bi a o c t G b)(ok:ET b)(rm:B0 b (m+1000))(hr:OG nm av r)(hv:AL l av)(hl:DV l)(x:Int):
  ∃h' G',BK cx 96 [Pt bi 0,zd r,I x] h (zq []) h'/\RX h' bi a o c t G' (b.EG l x)/\Du h (Bu bi G) h' (Bu bi G'):=by
 have cF:A0=140737488355328:=rfl;obtain⟨M,L,K,J,H,E,D,C,SM,TO,rfl⟩:=hr;by_cases hk:(b.a.nd x).kind=4;rotate_left;.refine⟨h,G,?_,by rw[BS.EG];rwa[Ac hk],.refl⟩;simp[Ad,Û,abS,Nf w x,hk,B3]
 have hx:b.a.has x:=by
  by_cases hp:b.a.has x;.exact hp
  .rw[H6 hp] at hk;simp at hk
 have VV:=rm.at_ x;have wL:=hl.1;let⟨n,i,ps,d,_⟩:=w.w;let⟨A,e0,g⟩:=AX.Gg (b:=40) (d.ç hx) Ab;have IJ:Ev cx 96 [Pt bi 0,zd [M,zm nm,L,K,J,H,E,D,av,C,SM,TO],I x] h λr h'=>r= zq []/\∃G',RX h' bi a o c t G' (b.EG l x)/\Du h (Bu bi G) h' (Bu bi G'):=by
  rw[Ev];have hvl:=z3 hv;simp only[Û,abS,Nf w x,AE hk,B3,w.l0,d.nodes,d.addr hx,d.f6 hx,e0];refine Bj (λs:Aa×Nat=>[s.1,I (s.2:Int)]) (λs h1=>s.2<=zz l/\AL ((b.a.nd x).Aj++z1 (l.take s.2)) s.1/\h1=h) (λs=>zz l-s.2) (A,0) rfl ⟨AV _,by simp[KU,z1,Da,BB];exact g,rfl⟩ ?_;rintro⟨u,k⟩ h1 ⟨bQ,hu,rfl⟩;simp only at bQ hu;obtain hlt|Et:=AP k (zz l)
  .have j:=z0 (k:= za) hv hlt;rw[z4] at j;have em:AA (.Dk 3) [zd [I 0,zm l[k].name,zm l[k].value]]=zx (.sl 3 [[I 0,zm l[k].name,zm l[k].value]]):=rfl;have a1:=AX.JU (f:=z4) (b:=40) (a:=⟨0,l[k].name,l[k].value⟩) hu (by rw[Aw,z1,Ao,Ax];omega);rw[A9.fJ] at a1;have hs:(b.a.nd x).Aj++z1 (l.take (k+1))=((b.a.nd x).Aj++z1 (l.take k))++[⟨0,l[k].name,l[k].value⟩]:=by rw[AB hlt,z1,BL,<-AK];rfl
   simp only[abS,zy,AQ,hvl,(Ab:(k:Int)<(zz l:Int)),j,aaS,em,a1,By k];exact zr (_,k+1) rfl ⟨hlt,by rw[hs,AK];exact .mk,rfl⟩ DA
  .have Re:k=zz l:=by omega
   subst Re;rw[Bt] at hu;have hsp:∀y∈(b.a.nd x).Aj++z1 l,z6 y.A7:=by
    intro y hy;obtain hy|hy:=Ay.1 hy
    .exact(ok.ok.T1 x hx).ļ y hy
    .obtain⟨z,_,rfl⟩:=Bs.1 hy;exact⟨DA,DA⟩
   let⟨h2,N,B,v,q⟩:=w.step (A':=b.a.JW x ((b.a.nd x).Aj++z1 l)) (R:=λh2=>BK cx 225 [Pt a 0,I x,u] h1 (I 0) h2) λn i ps d=>by let⟨h',JK,f1,f2,f3⟩:=aLo d hx hk hu (by rw[Aw,z1,Ao];omega) hsp;exact⟨h',n,i,JK,f1,f2,f3⟩
   have e:b.EG l x={b with a:=b.a.JW x ((b.a.nd x).Aj++z1 l)}:=by rw[BS.EG];rw[Af hk]
   simp only[abS,zy,AQ,hvl,(Ab:¬(l.length:Int)<(l.length:Int)),w.l0,B];exact⟨_,rfl,rfl,N,by rwa[e],q⟩
 obtain⟨r,h',hr,rfl,G',w',x'⟩:=IJ.ret;exact⟨h',G',hr,w',x'⟩
def aLu(w:RX h bi a o c t G b)(rm:B0 b m):
  ∃h' o',BK cx 91 [Pt bi 0] h (zq []) h'/\RX h' bi a o' c t G b.BH/\Du h (Bu bi G) h' (Bu bi G):=by
 have ho:=rm.AI;have hnm:∀i∈b.AI,zz i.name<9223372036854775807:=λi hi=>by have:=rm.Xe i hi;omega
 have em:AA (.Dk 1) [S [112]]=zx (.sl 1 ([wP].map Cr)):=D2 (ws:=[wP]) rfl Bf;have ld:A5 h zk (Pt bi 2)=zx o:=w.ld 2;have e:=aJF (h:=h) w.o Ab hnm 3 (Cw (ws:=[wP])) Bf;by_cases hs:HZ (AU [wP]) (HG 3) b.AI.reverse=z9;rotate_left
 .have dG:HZ (AU [wP]) (HG 3) b.AI.reverse=zs:=zv hs
  rw[dG] at e;refine⟨h,o,?_,by rw[BS.BH];rwa[Ac hs],.refl⟩;simp only[Ad,Ù,BD,ld,em,e]
 .rw[hs] at e;let⟨d,g,r2,PU⟩:=f165 (h:=h) w.o Ab hnm wP zs;have w1:=w.HY (u:=g);have f:=w1.H5 PU;have Ia:EX wP zs=Di wP:=by funext a;rfl
  have l1:(DI (EX wP zs) Cx b.AI).length<=zz b.AI:=Rq;have j:A5 (put (h++g) bi 2 d) zk (Pt bi 2)=zx d:=f.ld 2;let⟨q,t2,s,Ja⟩:=f85 (h:=put (h++g) bi 2 d) PU Ab (Cw (ws:=[wP])) Bf;have n:=f.HY (u:=t2);rw[<-M3] at Ja;have p:=n.H5 Ja;refine⟨_,q,?_,by rw[BS.BH];rwa[Af hs,<-Ia],((w.C3.trans Bd).trans f.C3).trans Bd⟩;simp only[Ad,Ù,BD,ld,em,e,r2,w1.st (k:=2) (v0:=o) rfl (zt PU),j,s,n.st (k:=2) (v0:=d) rfl (zt Ja)]
variable{nm:Ai}{av:Aa}{l:List A9}{r:List Aa}
section
variable(w:RX h bi a o c t G b)
def aLv(ok:BA b)(rm:B0 b (m+4))(hnm:Nm b.a)(hr:OG nm av r)(hv:AL l av)(hl:DV l)(hn:zz nm<=1000)(st:Int):
  ∃h' o' G',BK cx 90 [Pt bi 0,zd r,I st] h (zq []) h'/\RX h' bi a o' c t G' (b.DE nm l st)/\Du h (Bu bi G) h' (Bu bi G'):=by
 let⟨h1,e,f,s,w1,i⟩:=um w ok rm hnm hr hv hl hn;obtain⟨E,D,C,B,A,z,y,u,SM,TO,rfl⟩:=hr;have d:RX (put h1 bi 18 (I st)) bi a e c t f {b.D9 nm l 1 with sw:=st}:=w1.put rfl rfl w1.o w1.t;have g:RX (put (put h1 bi 18 (I st)) bi 5 (I (b.D9 nm l 1).mode)) bi a e c t f {{b.D9 nm l 1 with sw:=st} with RL:=(b.D9 nm l 1).mode}:=d.put rfl rfl d.o d.t;have j:=g.tV 8;refine⟨_,e,f,?_,j,((i.trans Bd).trans Bd).trans Bd⟩;have q:=w1.st (k:=18) (v:= I st) (v0:= I (b.D9 nm l 1).sw) rfl rfl;have p:=d.st (k:=5) (v:= I (b.D9 nm l 1).mode) (v0:= I (b.D9 nm l 1).RL) rfl rfl;have n:=g.st (k:=4) (v:=I 8) (v0:= I (b.D9 nm l 1).mode) rfl rfl;have l4:A5 (put h1 bi 18 (I st)) zk (Pt bi 4)=zx (I (b.D9 nm l 1).mode):=d.l4;simp[Ad,aFS,BD,s,q,l4,p,n]
def aQn(rm:B0 b m):∃h' o',BK cx 100 [Pt bi 0] h (zd b.sW.row) h'/\RX h' bi a o' c t G b.IW/\Du h (Bu bi G) h' (Bu bi G):=by
 have ho:=rm.AI;have ld:A5 h zk (Pt bi 2)=zx o:=w.ld 2;have lo:=z3 w.o;unfold BS.IW BS.sW;by_cases h2:zz b.AI<2;.refine⟨h,o,?_,by rwa[Af h2],.refl⟩;simp[Af h2,Ad,iz,abS,AQ,ld,lo,(Ab:(zz b.AI:Int)<2)];rfl
 .let⟨u,e,f,hu⟩:=aBL (h:=h) w.o Ab;have hc:Kd b.AI ((zz b.AI:Int)-1)=b.AI.take (zz b.AI-1):=by rw[Kd];congr 1;omega
  rw[hc] at hu;have w1:=w.HY (u:=e);have d:=w1.H5 hu;refine⟨_,u,?_,by rwa[Ac h2],w.C3.trans Bd⟩;simp only[Ac h2,Ad,iz,abS,AQ,ER,ld,lo,(Ab:¬(zz b.AI:Int)<2),Ĉ w rm,f,w1.st (k:=2) (v0:=o) rfl (zt hu)]
end
def aLw(w:RX h bi a o c t G b)(rm:B0 b m)(nm:Ai):
  ∃h' o',BK cx 93 [Pt bi 0,zm nm] h (zq []) h'/\RX h' bi a o' c t G (b.Dz nm)/\Du h (Bu bi G) h' (Bu bi G):=by
 have ho:=rm.AI;have hnm:∀i∈b.AI,zz i.name<9223372036854775807:=λi hi=>by have:=rm.Xe i hi;omega
 have ld:A5 h zk (Pt bi 2)=zx o:=w.ld 2;have lo:=z3 w.o;have IJ:Ev cx 93 [Pt bi 0,zm nm] h λr h'=>r= zq []/\∃o',RX h' bi a o' c t G (b.Dz nm)/\Du h (Bu bi G) h' (Bu bi G):=by
  rw[Ev];simp only[aFU,BD,ld,lo,C0 ((b.AI.length:Int)) 1];refine Bj (λn:Nat=>[I ((n:Int)-1)]) (λn h1=>n<=zz b.AI/\(b.AI.reverse.find? λi=>AU [nm] i||C1 i)=((b.AI.take n).reverse.find? λi=>AU [nm] i||C1 i)/\h1=h) (λn=>n) (zz b.AI) rfl ⟨Ae _,by rw[Bt],rfl⟩ ?_;rintro n h1 ⟨hn,ha,rfl⟩;cases n with
  |zero=>
   have e:b.Dz nm=b:=by rw[BS.Dz];rw[ha];rfl
   simp only[abS,(Ab:¬(0:Int)<=((0:Nat):Int)-1)];exact⟨_,rfl,rfl,o,by rwa[e],.refl⟩
  |succ n=>
   have hlt:n<zz b.AI:=Ab;have i1:((n+1:Nat):Int)-1=(n:Int):=Ab;have v:=z0 (k:= za) w.o hlt;have W0:=hnm _ (AN hlt);have em:AA (.Dk 1) [zm nm]=zx (.sl 1 ([nm].map Cr)):=D2 (ws:=[nm]) rfl AH;rw[M9 hlt,DZ] at ha;generalize hi:b.AI[n]=i at*;have r2:BK cx 217 [zd i.row,.sl 1 ([nm].map Cr)] h1 (zj (AU [nm] i)) h1:=f167 i (Cw (ws:=[nm])) AH;have sub:=C0 ((n:Int)) 1;cases h2:AU [nm] i with
   |true=>
    rw[h2] at r2 ha;let⟨f,q,g,PU⟩:=f165 (h:=h1) w.o Ab hnm nm zs;have w1:=w.HY (u:=q);have p:=w1.H5 PU;have Ia:EX nm zs=Di nm:=by funext a;rfl
    have l1:(DI (EX nm zs) Cx b.AI).length<=b.AI.length:=Rq;have s:A5 (put (h1++q) bi 2 f) zk (Pt bi 2)=zx f:=p.ld 2;let⟨A,t2,B,Ja⟩:=aJI (h:=put (h1++q) bi 2 f) PU Ab i.node;have y:=p.HY (u:=t2);have z:=y.H5 Ja;have e:b.Dz nm={b with AI:=Hu i.node (DI (Di nm) Cx b.AI)}:=by rw[BS.Dz];simp only[ha,h2,VN,BR]
    simp only[abS,Nat.reduceLeDiff,ER,i1,MW,ld,v,em,r2,g,w1.st (k:=2) (v0:=o) rfl (zt PU),s,B,y.st (k:=2) (v0:=f) rfl (zt Ja)];exact⟨_,rfl,rfl,A,by rwa[e,<-Ia],((w.C3.trans Bd).trans p.C3).trans Bd⟩
   |false=>
    rw[h2] at r2 ha;have g:∀{Q:HC} {h:Ah} {kk:Aa->IT},W cx (.BM 219 [I i.A7,zm i.name] kk) Q h↔W cx (kk (zj (Dh i.A7 i.name))) Q h:=(f169 i.A7 i.name W0).BM rfl rfl;cases j:C1 i with
    |true=>
     have d:Dh i.A7 i.name=z9:=j;rw[j] at ha;have e:b.Dz nm=b:=by rw[BS.Dz];rw[ha];simp[h2]
     simp only[abS,Nat.reduceLeDiff,↓reduceIte,ER,i1,MW,ld,v,em,r2,g,d];exact⟨_,rfl,rfl,o,by rwa[e],.refl⟩
    |false=>have d:Dh i.A7 i.name=zs:=j;rw[j] at ha;simp only[abS,Nat.reduceLeDiff,↓reduceIte,ER,i1,MW,ld,v,em,r2,g,d,sub];exact zr n rfl ⟨Ab,ha,rfl⟩ Ab
 obtain⟨r,h',hr,rfl,o',w',x'⟩:=IJ.ret;exact⟨h',o',hr,w',x'⟩
variable{nm:Ai}{av:Aa}{l:List A9}{r:List Aa}
def aLx(w:RX h bi a o c t G b)(hc:B4 b.AW c)(ok:ET b)(rm:B0 b (m+5))(hnm:Nm b.a)(hr:OG nm av r)(hv:AL l av)(hl:DV l)(hn:zz nm<=1000):
  ∃h' o' c' G',BK cx 87 [Pt bi 0,zd r] h (I (b.a.len+1)) h'/\RX h' bi a o' c' t G' (b.GX nm l)/\B4 (b.GX nm l).AW c'/\Du h (Bu bi G) h' (Bu bi G'):=by
 let⟨h1,j,n,i,w1,g⟩:=um (m:=m+1) w ok (rm.le Ab) hnm hr hv hl hn;let⟨fs,d,hf⟩:=hc;have ha:=rm.AW;have HB:zz fs=zz b.AW:=by rw[<-d,Ao]
 let⟨u,e',Qu,r2,hu⟩:=f156 (h:=h1) (l:=fs) hf Ab (oM d λx hx=>((rm.DL x hx).2).1) (e:=⟨⟨b.a.len+1,nm,l⟩,av,hv⟩) (by rw[bN];have:=hl.1;simp only;omega);refine⟨_,j,u,n,?_,w1.KC (u:=u),?_,g.trans Bd⟩;.obtain⟨B,A,z,y,v,s,q,p,SM,TO,rfl⟩:=hr;have f:BK cx 136 [c,zd [I (b.a.len+1),zm nm,av]] h1 u h1:=r2;have bJ:av.cells=[av]:=zt hv;simp[Ad,aFR,abS,AQ,i,w1.l3,bJ,f,w1.st (k:=3) (v0:=c) rfl (zt hu)]
 .refine⟨_,?_,hu⟩;rw[tS Qu,d];rw[BS.GX];simp only;rw[Er]
end
section
variable{n:Nat}
def oZ(d:Nat)(hd:0<d)(h:n<2147483648)(e:AA (zf .quo) [I (n:Int),I (d:Int)]=zx (I (IntKind.i64.wrap ((n:Int).tdiv (d:Int))))):AA (zf .quo) [I (n:Int),I (d:Int)]=zx (I ((n/d:Nat):Int)):=by
 have h2:(n:Int).tdiv (d:Int)=((n/d:Nat):Int):=by rw[Int.tdiv_eq_ediv_of_nonneg Ab];rfl
 have a:n/d<=n:=Nat.div_le_self n d;rw[e,h2];generalize n/d=k at*;rw[wrap_i64 Ab Ab]
def aCj(d:Nat)(hd:0<d)(h:n<2147483648)(e:AA (zf .rem) [I (n:Int),I (d:Int)]=zx (I ((n:Int).tmod (d:Int)))):AA (zf .rem) [I (n:Int),I (d:Int)]=zx (I ((n%d:Nat):Int)):=by
 have h2:(n:Int).tmod (d:Int)=((n%d:Nat):Int):=by rw[Int.tmod_eq_emod_of_nonneg Ab];rfl
 rw[e,h2]
def aO(h:n<2147483648):AA (zf .quo) [I (n:Int),I 64]=zx (I ((n/64:Nat):Int)):=oZ 64 Bf h rfl
def aP(h:n<2147483648):AA (zf .quo) [I (n:Int),I 4096]=zx (I ((n/4096:Nat):Int)):=oZ 4096 Bf h rfl
def o7(h:n<2147483648):AA (zf .quo) [I (n:Int),I 262144]=zx (I ((n/262144:Nat):Int)):=oZ 262144 Bf h rfl
def OL(h:n<2147483648):AA (zf .rem) [I (n:Int),I 64]=zx (I ((n%64:Nat):Int)):=aCj 64 Bf h rfl
def Uu(c:Nat)(h:c+n<2147483648):AA (zf .add) [I (c:Int),I (n:Int)]=zx (I ((c+n:Nat):Int)):=by rw[Pd Ab Ab];congr 2
def ML(h:n<64):AA (zf .add) [I 128,I (n:Int)]=zx (I ((128+n:Nat):Int)):=Uu 128 Ab
def uo(h:n<64):AA (zf .add) [I 192,I (n:Int)]=zx (I ((192+n:Nat):Int)):=Uu 192 Ab
def uq(h:n<64):AA (zf .add) [I 224,I (n:Int)]=zx (I ((224+n:Nat):Int)):=Uu 224 Ab
def ur(h:n<64):AA (zf .add) [I 240,I (n:Int)]=zx (I ((240+n:Nat):Int)):=Uu 240 Ab
def Sr(h:n<256):AA (.conv yt) [I (n:Int)]=zx (zg yt (n:Int)):=by rw[VB];congr 3;omega
end
def QV(r:Int):Prop:=(0<=r/\r<=55295)\/(57344<=r/\r<=1114111)
instance(r:Int):Decidable (QV r):=by rw[QV];infer_instance
def aLy(r:Int):JN cx 209 [zg yw r] (zj (decide (QV r))):=by rw[LY,aAE];by_cases h1:0<=r<;>by_cases h2:r<=55295<;>by_cases b:57344<=r<;>by_cases a:r<=1114111<;>simp[h1,h2,b,a,QV]
def aLz(r:Int)(hr:QV r)(h:Ah):BK cx 210 [zg yw r] h (.sl 1 (Cg (Ig r))) h:=by
 have one:∀{a:Nat} (h1:a<256),AA (.Dk 1) [zg yt (a:Int)]=zx (.sl 1 (Cg [zw a])):=by intro a h1;simp only[Cg,Bm,Da,fH h1];rfl
 have KZ:∀{a b:Nat} (h1:a<256) (h2:b<256),AA (.Dk 1) [zg yt (a:Int),zg yt (b:Int)]=zx (.sl 1 (Cg [zw a,zw b])):=by intro a b h1 h2;simp only[Cg,Bm,Da,fH h1,fH h2];rfl
 have VR:∀{a b c:Nat} (h1:a<256) (h2:b<256) (d:c<256),AA (.Dk 1) [zg yt (a:Int),zg yt (b:Int),zg yt (c:Int)]=zx (.sl 1 (Cg [zw a,zw b,zw c])):=by intro a b c h1 h2 d;simp only[Cg,Bm,Da,fH h1,fH h2,fH d];rfl
 have four:∀{a b c f:Nat} (h1:a<256) (h2:b<256) (d:c<256) (g:f<256),AA (.Dk 1) [zg yt (a:Int),zg yt (b:Int),zg yt (c:Int),zg yt (f:Int)]=zx (.sl 1 (Cg [zw a,zw b,zw c,zw f])):=by intro a b c f h1 h2 d g;simp only[Cg,Bm,Da,fH h1,fH h2,fH d,fH g];rfl
 rw[QV] at hr;obtain⟨n,rfl⟩:=Jm (Ab:0<=r);have cv:AA (.conv za) [zg yw (n:Int)]=zx (I (n:Int)):=by rw[Rm,wrap_i64 Ab Ab]
 rw[Ad,aAF];by_cases k:n<128
 .have e:Ig (n:Int)=[zw n]:=by rw[Ig];rw[Af Ab];rfl
  simp[e,abS,cv,(Ab:(n:Int)<128),Sr (Ab:n<256),one (Ab:n<256)]
 by_cases j:n<2048
 .have e:Ig (n:Int)=[zw (192+n/64),zw (128+n%64)]:=by rw[Ig];rw[Ac Ab,Af Ab];rfl
  simp only[e,abS,cv,(Ab:¬(n:Int)<128),(Ab:(n:Int)<2048),aO (Ab:n<2147483648),uo (Ab:n/64<64),Sr (Ab:192+n/64<256),OL (Ab:n<2147483648),ML (Ab:n%64<64),Sr (Ab:128+n%64<256),KZ (Ab:192+n/64<256) (Ab:128+n%64<256)]
 by_cases i:n<65536
 .have e:Ig (n:Int)=[zw (224+n/4096),zw (128+n/64%64),zw (128+n%64)]:=by rw[Ig];rw[Ac Ab,Ac Ab,Af Ab];rfl
  simp only[e,abS,cv,(Ab:¬(n:Int)<128),(Ab:¬(n:Int)<2048),(Ab:(n:Int)<65536),aP (Ab:n<2147483648),uq (Ab:n/4096<64),Sr (Ab:224+n/4096<256),aO (Ab:n<2147483648),OL (Ab:n/64<2147483648),ML (Ab:n/64%64<64),Sr (Ab:128+n/64%64<256),OL (Ab:n<2147483648),ML (Ab:n%64<64),Sr (Ab:128+n%64<256),VR (Ab:224+n/4096<256) (Ab:128+n/64%64<256) (Ab:128+n%64<256)]
 .have e:Ig (n:Int)=[zw (240+n/262144),zw (128+n/4096%64),zw (128+n/64%64),zw (128+n%64)]:=by rw[Ig];rw[Ac Ab,Ac Ab,Ac Ab,Af Ab];rfl
  simp only[e,abS,cv,(Ab:¬(n:Int)<128),(Ab:¬(n:Int)<2048),(Ab:¬(n:Int)<65536),o7 (Ab:n<2147483648),ur (Ab:n/262144<64),Sr (Ab:240+n/262144<256),aP (Ab:n<2147483648),OL (Ab:n/4096<2147483648),ML (Ab:n/4096%64<64),Sr (Ab:128+n/4096%64<256),aO (Ab:n<2147483648),OL (Ab:n/64<2147483648),ML (Ab:n/64%64<64),Sr (Ab:128+n/64%64<256),OL (Ab:n<2147483648),ML (Ab:n%64<64),Sr (Ab:128+n%64<256),four (Ab:240+n/262144<256) (Ab:128+n/4096%64<256) (Ab:128+n/64%64<256) (Ab:128+n%64<256)]
def uv(r:Int):Ig (if QV r then r else 65533)=Ig r:=by
 by_cases h:QV r;.rw[Af h]
 .rw[Ac h];rw[QV] at h;have:Ig r=[239,191,189]:=by rw[Ig];rw[Ac Ab,Ac Ab,Ac Ab,Ac Ab]
  have h2:Ig 65533=[239,191,189]:=by rw[Ig];rw[Ac Ab,Ac Ab,Af Ab];decide+kernel
  rw[this,h2]
def ċ(r:Int):QV (if QV r then r else 65533):=by
 by_cases h:QV r;.rw[Af h];exact h
 .rw[Ac h];decide
section
variable{h h':Ah}{bi a:Nat}{o c t:Aa}{G G' F:Nat->Prop}{b:BS}{x:Int}{m:Nat}
variable{nm:Ai}{av:Aa}{l:List A9}{r:List Aa}{sp p:Int}
def RX.leaf{k d:Int}{s:Ai}(w:RX h bi a o c t G b)(ok:ET b)(rm:B0 b (m+1))(hk:k=5\/k=6)(hd:b.a.has d/\(b.a.nd d).kind=1)(hs:zz s<=100000)(p bf:Int):
  ∃e h' G',BK cx 127 [Pt a 0,I d,zd [I k,I 0,zo,I 0,I 0,S [],zo,zm s,S [],S [],ff,I 0,I 0]] h (zq [I (b.a.len+1),I 0]) e/\BK cx 165 [Pt bi 0,I p,I (b.a.len+1),I bf] e (zq []) h'/\RX h' bi a o c t G' {b with a:=(b.a.add {kind:=k,CF:=d,data:=s}).ES (b.a.len+1) p bf}/\Du h (Bu bi G) h' (Bu bi G'):=by
 let⟨e,C,B,z,u⟩:=w.step (A':=b.a.add {kind:=k,CF:=d,data:=s}) (R:=λh'=>BK cx 127 [Pt a 0,I d,zd [I k,I 0,zo,I 0,I 0,S [],zo,zm s,S [],S [],ff,I 0,I 0]] h (zq [I (b.a.len+1),I 0]) h') (λn i ps v=>by let⟨h',n',i',JK,r,wp,j⟩:=aLj v (show b.a.len<=1000000000 by have:=rm.n;rw[Ar.len];omega) hd.1 hd.2 k s;exact⟨h',n',i',JK,r,wp,j⟩)
 let⟨g,f⟩:=oP (m:=m) (k:=k) (s:=s) ok rm hk hd hs;let⟨h',G',A,y,q⟩:=ml z g.ba f p (b.a.len+1) bf;exact⟨e,h',G',B,A,y,u.trans q⟩
def aQo(w:RX h bi a o c t G b)(ok:ET b)(rm:B0 b (m+5))(hnm:Nm b.a)(r:Int):
  ∃h' G',BK cx 88 [Pt bi 0,.int .i32 r] h (.tuple []) h'/\RX h' bi a o c t G' (b.Xd r)/\Du h (Bu bi G) h' (Bu bi G'):=by
 have g:=mm w ok rm hnm 0;obtain⟨hp,N⟩:=ZH ok (t:=0) (.inl rfl);unfold BS.Xd;generalize(b.place 0).1=p at*;generalize(b.place 0).2=bf at*;have r2:=Nf w p;unfold BS.Mh;by_cases hk:(b.a.nd p).kind=4\/(b.a.nd p).kind=2;rotate_left;.refine⟨h,G,?_,by rw[Ac hk];exact w,.refl⟩;have Y:¬(b.a.nd p).kind=4:=λe=>hk (.inl e);have Z:¬(b.a.nd p).kind=2:=λe=>hk (.inr e);rw[Ad,jU];simp only[abS,g,r2,B3,Y,Z,A8]
 rw[Af hk];obtain⟨i,hi,aa,Xa,M⟩:=tU (l:=(b.a.nd p).Be) (bf:=bf) (λh=>by have:=N h;have h2:=(ok.ok.Gm bf this.1 (by rw[this.2];have:=hp.1;omega)).2;rwa [this.2] at h2);rw[M];have Re:(b.a.nd p).Be.length<=1000000000:=rm.Wt.Be ok.ok p;obtain⟨n,i',ps,d,eG⟩:=w.w;obtain⟨kv,y,lp⟩:=Ć (x:=p) d Re;have hvl:=z3 lp;have q:=aLq (h:=h) lp Re bf;have rd:=mj w p;rw[Af hp] at rd;have z:∀{Q:HC} {h:Ah} {kk:Aa->IT},W cx (.BM 209 [.int .i32 r] kk) Q h↔W cx (kk (.bool (decide (QV r)))) Q h:=(aLy r).BM rfl rfl;obtain⟨r',Gy⟩:∃r',r'=if QV r then r else 65533:=⟨_,rfl⟩
 have dG:=ċ r;have vO:=uv r;rw[<-Gy] at dG vO;have rb:=aLz r' dG h;rw[vO] at rb;have pT:=Uk r;generalize hs:Ig r=s at*;have f3:KY h (.sl 1 (Cg s))=zx (h,.sl 1 (Cg s)):=rfl;have b3:AA .Yi [.sl 1 (Cg s)]=zx (.str s):=by simp[AA,Yk,SR]
 have oQ:=ok.ok.CF p hp;obtain⟨h4,R,S,J,H,P,O⟩:=w.leaf (m:=m) (k:=5) (s:=s) ok (rm.le Ab) (.inl rfl) oQ Ab p bf;by_cases hz:i=0
 .subst hz;simp only[↓reduceIte];refine⟨R,S,?_,P,O⟩;rw[Ad,jU];obtain hk|hk:=hk<;>by_cases RZ:QV r<;>by_cases h0:bf=0
  all_goals first|rw[Af RZ] at Gy|rw[Ac RZ] at Gy
  all_goals subst Gy
  all_goals first
   |(rw[<-aa h0] at hvl;simp only[abS,Nat.reduceLeDiff,↓reduceIte,AQ,g,r2,B3,hk,KD,A8,z,As RZ,rb,f3,b3,w.l0,y,hvl,AE h0,(Bf:¬(0:Int)<((0:Nat):Int)),rd,BN,J,H];done)
   |(rw[<-aa h0] at hvl;simp only[abS,Nat.reduceLeDiff,↓reduceIte,AQ,g,r2,B3,hk,KD,A8,z,Al RZ,rb,f3,b3,w.l0,y,hvl,AE h0,(Bf:¬(0:Int)<((0:Nat):Int)),rd,BN,J,H];done)
   |(rw[Xa h0] at q;simp only[abS,Nat.reduceLeDiff,↓reduceIte,AQ,g,r2,B3,hk,KD,A8,z,As RZ,rb,f3,b3,w.l0,y,hvl,h0,q,(Bf:¬(0:Int)<((0:Nat):Int)),rd,BN,J,H];done)
   |(rw[Xa h0] at q;simp only[abS,Nat.reduceLeDiff,↓reduceIte,AQ,g,r2,B3,hk,KD,A8,z,Al RZ,rb,f3,b3,w.l0,y,hvl,h0,q,(Bf:¬(0:Int)<((0:Nat):Int)),rd,BN,J,H];done)
 .obtain⟨j,rfl⟩:∃j,i=j+1:=⟨i-1,Ab⟩;have hj:j<(b.a.nd p).Be.length:=Ab;rw[Ac hz,Fy,An hj];simp only
  have ht:=ok.ok.NJ p hp _ (AN hj);have C:=z0 (k:= .i64) lp hj;rw[Cb] at C;have D:AA (.int .sub) [I ((j+1:Nat):Int),I 1]=zx (I (j:Int)):=by have:=IK (n:=j+1) Ab Ab;simpa using this
  have f:(0:Int)<((j+1:Nat):Int):=Ab;generalize hte:(b.a.nd p).Be[j]=B at*;have E:=Nf w B;by_cases A:(b.a.nd B).kind=5
  .rw[Af A];have vT:=rm.data B;obtain⟨h8,K,X,U,_⟩:=d.wr ht.1 (k:=7) Bf (v:= .str ((b.a.nd B).data++s)) rfl (p:=⟨{b.a.nd B with data:=(b.a.nd B).data++s},(pR ps B).kv,(pR ps B).av,d.NJ ht.1,d.ç ht.1⟩) (by simp only[RN.row];rw[(d.pn ht.1).2];rfl);obtain⟨V,T⟩:=w.lq (G':=JZ a n i') ⟨n,i',_,X,rfl⟩ (by rw[eG];exact U);refine⟨h8,_,?_,V,T⟩;have L:=oO (s:=(b.a.nd B).data) (u:=s) Ab;rw[Ad,jU];obtain hk|hk:=hk<;>by_cases RZ:QV r<;>by_cases h0:bf=0
   all_goals first|rw[Af RZ] at Gy|rw[Ac RZ] at Gy
   all_goals subst Gy
   all_goals first
    |(rw[<-aa h0] at hvl;simp only[abS,Nat.reduceLeDiff,↓reduceIte,AQ,g,r2,B3,hk,KD,A8,z,As RZ,rb,f3,b3,w.l0,y,hvl,AE h0,f,D,C,E,AE A,d.nodes,d.addr ht.1,d.f7 ht.1,L,K];done)
    |(rw[<-aa h0] at hvl;simp only[abS,Nat.reduceLeDiff,↓reduceIte,AQ,g,r2,B3,hk,KD,A8,z,Al RZ,rb,f3,b3,w.l0,y,hvl,AE h0,f,D,C,E,AE A,d.nodes,d.addr ht.1,d.f7 ht.1,L,K];done)
    |(rw[Xa h0] at q;simp only[abS,Nat.reduceLeDiff,↓reduceIte,AQ,g,r2,B3,hk,KD,A8,z,As RZ,rb,f3,b3,w.l0,y,hvl,h0,q,f,D,C,E,AE A,d.nodes,d.addr ht.1,d.f7 ht.1,L,K];done)
    |(rw[Xa h0] at q;simp only[abS,Nat.reduceLeDiff,↓reduceIte,AQ,g,r2,B3,hk,KD,A8,z,Al RZ,rb,f3,b3,w.l0,y,hvl,h0,q,f,D,C,E,AE A,d.nodes,d.addr ht.1,d.f7 ht.1,L,K];done)
  .rw[Ac A];refine⟨R,S,?_,P,O⟩;rw[Ad,jU];obtain hk|hk:=hk<;>by_cases RZ:QV r<;>by_cases h0:bf=0
   all_goals first|rw[Af RZ] at Gy|rw[Ac RZ] at Gy
   all_goals subst Gy
   all_goals first
    |(rw[<-aa h0] at hvl;simp only[abS,Nat.reduceLeDiff,↓reduceIte,AQ,g,r2,B3,hk,KD,A8,z,As RZ,rb,f3,b3,w.l0,y,hvl,AE h0,f,D,C,E,A,rd,BN,J,H];done)
    |(rw[<-aa h0] at hvl;simp only[abS,Nat.reduceLeDiff,↓reduceIte,AQ,g,r2,B3,hk,KD,A8,z,Al RZ,rb,f3,b3,w.l0,y,hvl,AE h0,f,D,C,E,A,rd,BN,J,H];done)
    |(rw[Xa h0] at q;simp only[abS,Nat.reduceLeDiff,↓reduceIte,AQ,g,r2,B3,hk,KD,A8,z,As RZ,rb,f3,b3,w.l0,y,hvl,h0,q,f,D,C,E,A,rd,BN,J,H];done)
    |(rw[Xa h0] at q;simp only[abS,Nat.reduceLeDiff,↓reduceIte,AQ,g,r2,B3,hk,KD,A8,z,Al RZ,rb,f3,b3,w.l0,y,hvl,h0,q,f,D,C,E,A,rd,BN,J,H];done)
def RX.M8{s:Ai}{p bf x:Int}(hstart:(¬x=0/\p=x/\bf=0)\/(x=0/\BK cx 207 [Pt bi 0,I 0] h (zq [I p,I bf]) h))(w:RX h bi a o c t G b)(ok:ET b)(rm:B0 b (m+1))(hs:zz s<=100000):
  ∃h' G',BK cx 89 [Pt bi 0,zm s,I x] h (zq []) h'/\RX h' bi a o c t G' {b with a:=BS.Fp b.a s p bf}/\Du h (Bu bi G) h' (Bu bi G'):=by
 have r2:=Nf w p;rw[BS.Fp];by_cases hk:LZ (b.a.nd p).kind
 .rw[Af hk];have hp:b.a.has p:=by
   by_cases hp:b.a.has p;.exact hp
   .rw[H6 hp] at hk;rw[LZ] at hk;simp at hk
  have oQ:=ok.ok.CF p hp;have rd:=mj w p;rw[Af hp] at rd;let⟨y,u,v,f,e,q,n⟩:=w.leaf (m:=m) (k:=6) (s:=s) ok rm (zh rfl) oQ hs p bf;refine⟨u,v,?_,q,n⟩;rw[Ad,Ø];rcases hstart with⟨hx,rfl,rfl⟩|⟨hx,d⟩
  .rcases hk with hk|hk|hk<;>simp[abS,AQ,A8,r2,B3,hk,KD,w.l0,rd,BN,f,e,hx]
  .rcases hk with hk|hk|hk<;>simp[abS,AQ,A8,r2,B3,hk,KD,w.l0,rd,BN,f,e,AE hx,d]
 .rw[Ac hk];refine⟨h,G,?_,w,.refl⟩;rw[LZ] at hk;have j:¬(b.a.nd p).kind=1:=Ab;have i:¬(b.a.nd p).kind=2:=Ab;have g:¬(b.a.nd p).kind=4:=Ab;rw[Ad,Ø];rcases hstart with⟨hx,rfl,rfl⟩|⟨hx,d⟩
  .simp only[abS,zy,↓reduceIte,AQ,A8,r2,B3,j,i,g,hx]
  .simp only[abS,zy,↓reduceIte,AQ,A8,r2,B3,j,i,g,AE hx,d]
def aQp(w:RX h bi a o c t G b)(ok:ET b)(rm:B0 b (m+1))(hnm:Nm b.a)(s:Ai)(hs:zz s<=100000)(x:Int):
  ∃h' G',BK cx 89 [Pt bi 0,zm s,I x] h (zq []) h'/\RX h' bi a o c t G' (b.HN s x)/\Du h (Bu bi G) h' (Bu bi G'):=by
 rw[BS.HN];by_cases h0:x=0;.rw[Af h0];exact RX.M8 (p:=(b.place 0).1) (bf:=(b.place 0).2) (zh ⟨h0,mm w ok rm hnm 0⟩) w ok rm hs
 .rw[Ac h0];exact RX.M8 (p:=x) (bf:=0) (z2 ⟨h0,rfl,rfl⟩) w ok rm hs
end
def uK(n:Int)(l:List B5):List B5:=if 0<=D8 n l then Bg l (D8 n l).toNat else l
def uL{U:Type}{l:List U}{k:Nat}{x:U}(hk:k<zz l):(Bg l k).take k++x::(Bg l k).drop k=l.set k x:=by
 have h1:(l.take k).length=k:=by rw[Ax];omega
 rw[Bg];rw[Io h1,J1 h1,B1,Af hk]
def WB{p n:Nat}(h:p<=n):CL (p:Int) n=p:=by rw[CL];omega
section
variable{h h':Ah}{bi a:Nat}{o c t:Aa}{G G' F:Nat->Prop}{b:BS}{x:Int}{m:Nat}
variable{nm:Ai}{av:Aa}{l:List A9}{r:List Aa}{sp p:Int}
def B4.ix{d:List B5}{n:Nat}(hc:B4 d c)(hb:zz d<=900000000)(x:Int)(h:Ah):BK cx 221 [c,I x] h (I (D8 x d)) h:=by let⟨fs,Gp,hv⟩:=hc;have:=aO8 (h:=h) hv (by rw[<-Gp,Ao] at hb;omega) x;rwa [Uj,Gp] at this
def B4.wo{d:List B5}(hc:B4 d c)(hb:zz d<=900000000){k:Nat}(hk:k<zz d)(h:Ah):∃u,BK cx 282 [c,I (k:Int)] h u h/\B4 (Bg d k) u/\u.cells=[u]:=by
 let⟨fs,Gp,hv⟩:=hc;have hl:zz d=zz fs:=by rw[<-Gp,Ao]
 let⟨u,r,hu⟩:=aJS (h:=h) hv Ab (k:=k) Ab;exact⟨u,r,⟨Bg fs k,by unfold Bg;rw[BL,FM,IP,Gp],hu⟩,zt hu⟩
def B4.wi{d:List B5}(hc:B4 d c)(hb:zz d<=900000000){e:B5}{v:Aa}(hv:AL e.Aj v)(he:zz e.Aj<=1000000000)(i:Int)(h:Ah):∃u,BK cx 99 [c,zd [I e.node,zm e.name,v],I i] h u h/\B4 (d.take (CL i (zz d))++e::d.drop (CL i (zz d))) u/\u.cells=[u]:=by
 let⟨fs,Gp,SI⟩:=hc;have hl:zz d=zz fs:=by rw[<-Gp,Ao]
 let⟨u,e',Qu,r,hu⟩:=f82 (h:=h) SI Ab (e:=⟨e,v,hv⟩) he i;refine⟨u,r,⟨_,?_,hu⟩,zt hu⟩;rw[BL,Bm,FM,IP,Gp,Qu,hl]
def Č(w:RX h bi a o c t G b)(hc:B4 b.AW c)(hb:zz b.AW<=900000000)(x:Int):
  ∃h' c',BK cx 353 [Pt bi 0,I x] h (zq []) h'/\RX h' bi a o c' t G {b with AW:=uK x b.AW}/\B4 (uK x b.AW) c'/\Du h (Bu bi G) h' (Bu bi G):=by
 have d:=hc.ix (n:=0) hb x h;rw[uK];by_cases h0:0<=D8 x b.AW;.let⟨q,hq,e,_⟩:=GZ h0;let⟨u,r2,hu,f⟩:=hc.wo hb hq h;rw[Af h0];rw[e] at d⊢;rw[A3];refine⟨_,u,?_,w.KC,hu,Bd⟩;simp[Ad,ki,abS,w.l3,d,MW,r2,w.st (k:=3) (v0:=c) rfl f]
 .rw[Ac h0];refine⟨h,c,?_,w,hc,.refl⟩;simp[Ad,ki,abS,w.l3,d,h0]
structure uw(h:Ah)(bi a:Nat)(t:Aa)(G0:Nat->Prop)(fe blk anc:Int)(k N m:Nat)(s0:BS×Int×Nat)(n:Nat)(h1:Ah)(o c:Aa)(G:Nat->Prop)(s:BS×Int×Nat):Prop where
 le:n<=N
 w:RX h1 bi a o c t G s.1
 hc:B4 s.1.AW c
 ok:ET s.1
 rm:B0 s.1 (m+4*n)
 nm:Nm s.1.a
 last:s.1.a.has s.2.1
 x:Du h (Bu bi G0) h1 (Bu bi G)
 mkb:s.2.2<=1000000000
 len:k+n+1<=s.1.AI.length
 eq:BS.K4 blk anc (k+1+N) k N s0=BS.K4 blk anc (k+1+N) k n s
 XB:0<=D8 fe s.1.AW
 AI:s.1.AI.take (k+n+1)=s0.1.AI.take (k+n+1)
 feh:s.1.a.has fe
def uw.step{h1 h2:Ah}{D E B z:Aa}{C A:Nat->Prop}{fe blk anc:Int}{k N n:Nat}{s0 s s':BS×Int×Nat}(i:uw h bi a t G fe blk anc k N m s0 (n+1) h1 D E C s)(e:s'=yx blk anc (k+1+N) (k+(n+1)) s.1 s.2.1 s.2.2)
  (w:RX h2 bi a B z t A s'.1) (hc:B4 s'.1.AW z) (x:Du h1 (Bu bi C) h2 (Bu bi A)) (mk:s'.2.2<=1000000000) (XB:0<=D8 fe s'.1.AW):
  uw h bi a t G fe blk anc k N m s0 n h2 B z A s':=by
 let⟨g,last',q⟩:=ZL (blk:=blk) (anc:=anc) (far:=k+1+N) (i:=k+(n+1)) (m:=s.2.2) i.ok i.last;have hl:=i.len;let⟨f,v⟩:=fN (blk:=blk) (anc:=anc) (far:=k+1+N) (i:=k+(n+1)) (l:=s.2.1) (mk:=s.2.2) (b:=s.1) Ab;have d:=Pp (blk:=blk) (anc:=anc) (far:=k+1+N) (i:=k+(n+1)) (l:=s.2.1) (mk:=s.2.2) (m:=m+4*n) (i.rm.le Ab);have j:=Nm.FJ (blk:=blk) (anc:=anc) (far:=k+1+N) (i:=k+(n+1)) (l:=s.2.1) (mk:=s.2.2) i.nm i.rm;have y:BS.K4 blk anc (k+1+N) k (n+1) s=BS.K4 blk anc (k+1+N) k n (yx blk anc (k+1+N) (k+(n+1)) s.1 s.2.1 s.2.2):=rfl;have u:=i.eq.trans y;have OQ:=i.AI;rw[<-e] at g last' q f v d j u;refine⟨by have:=i.le;omega,w,hc,g,d,j,last',i.x.trans x,mk,Ab,u,XB,?_,q.has _ i.feh⟩;have:=Cj (λl=>l.take (k+(n+1))) OQ;simp only[Fj] at this;rw[(Ab:k+n+1=k+(n+1)),f];rwa [Ct Ab] at this
def aLA{anc fe:Int}{k N f:Nat}(w:RX h bi a o c t G b)(hc:B4 b.AW c)(ok:ET b)(rm:B0 b (m+4*N))(hnm:Nm b.a)(hN:k+1+N<b.AI.length)(hf:f<=1000000000){d:Item}(tl:b.AI[k+1+N]=d)(Re:AZ (BE fe) b.AI=(k:Int))(XB:0<=D8 fe b.AW)(feh:b.a.has fe):
  ∃h' o' c' G' s',BK cx 355 [Pt bi 0,I (f:Int),I (k:Int),I ((k+1+N:Nat):Int),I anc] h (.tuple [I s'.2.1,I (s'.2.2:Int)]) h'/\s'=BS.K4 d.node anc (k+1+N) k N (b,d.node,f)/\uw h bi a t G fe d.node anc k N m (b,d.node,f) 0 h' o' c' G' s':=by
 have ho:=rm.AI;have cF:A0=140737488355328:=rfl;have î:b.a.has d.node:=(ok.op d (by rw[<-tl];exact AN _)).1;have IJ:Ev cx 355 [Pt bi 0,I (f:Int),I (k:Int),I ((k+1+N:Nat):Int),I anc] h λr h'=>∃o' c' G' s',r= .tuple [I s'.2.1,I (s'.2.2:Int)]/\s'=BS.K4 d.node anc (k+1+N) k N (b,d.node,f)/\uw h bi a t G fe d.node anc k N m (b,d.node,f) 0 h' o' c' G' s':=by
  unfold Ev;have ld:A5 h zk (Pt bi 2)=zx o:=w.ld 2;have e0:=z0 (k:= .i64) w.o hN;rw[tl,Item.row] at e0;have i1:=TS (a:=((k+1+N:Nat):Int)) (b:=1) Ab Ab;rw[(Ab:((k+1+N:Nat):Int)-1=((k+N:Nat):Int))] at i1;rw[aBn];simp only[BD,ld,e0,i1];refine Bj (λz:Nat×Int×Nat=>[I z.2.1,I (z.2.2:Int),I ((k+z.1:Nat):Int)]) (λz h1=>∃o c G1 b1,uw h bi a t G fe d.node anc k N m (b,d.node,f) z.1 h1 o c G1 (b1,z.2)) (λz=>z.1) (N,d.node,f) rfl ⟨o,c,G,b,⟨Ae _,w,hc,ok,rm,hnm,î,.refl,hf,DA,rfl,XB,rfl,feh⟩⟩ ?_;rintro⟨n,last,mk⟩ h1 ⟨U,X,G1,b1,i⟩;simp only at i;cases n with
  |zero=>simp only[abS,↓reduceIte,(Ab:¬(k:Int)<(k:Int))];exact⟨_,rfl,U,X,G1,(b1,last,mk),rfl,i.eq.symm,i⟩
  |succ n=>
   have hnN:=i.le;have hlen:=i.len;simp only at hlen;have fO:k+(n+1)<b1.AI.length:=Ab;have hwo:=i.rm.AI;have hwa:=i.rm.AW;have htl:=i.rm.tm;simp only at hwo hwa;have j:RX h1 bi a U X t G1 b1:=i.w;have K:B4 b1.AW X:=i.hc;have qt:mk<=1000000000:=i.mkb;have wj:A5 h1 zk (Pt bi 2)=zx U:=j.ld 2;have V:=z0 (k:= .i64) j.o fO;have Yg:b1.AI.getD (k+(n+1)) Item.zero=b1.AI[k+(n+1)]:=by rw[AS,An fO];rfl
   have hxf:b1.AI[k+(n+1)].node≠fe:=by have h2:=Cj (λl=>l[k+(n+1)]?) i.AI;simp only[Ci] at h2;rw[Af Ab,Af Ab,An fO,An Ab] at h2;obtain⟨_,_,h3⟩:=Jg Re;have h4:=h3 (k+(n+1)) Ab Ab;rw[EA h2];intro h5;unfold BE at h4;rw[h5] at h4;simp at h4
   generalize hxe:b1.AI[k+(n+1)]=x at*;obtain⟨q,hq,tr,hq0,hq2,hq3⟩:=GZ i.XB;simp only at hq tr;have r2:=K.ix (n:=0) Ab x.node h1;have we:(k:Int)<((k+(n+1):Nat):Int):=Ab;have dec:AA (.int .sub) [I ((k+(n+1):Nat):Int),I 1]=zx (I ((k+n:Nat):Int)):=by have:=IK (n:=k+(n+1)) Ab Ab;rwa [(Ab:k+(n+1)-1=k+n)] at this
   have inc:AA (.int .add) [I ((k+(n+1):Nat):Int),I 1]=zx (I ((k+(n+1)+1:Nat):Int)):=Vg Ab;have s:AA (.int .sub) [I ((k+1+N:Nat):Int),I ((k+(n+1):Nat):Int)]=zx (I ((N-n:Nat):Int)):=by rw[TS Ab Ab];congr 2;omega
   have aVU:x.row.length=4:=rfl;have L:∀{h2:Ah} {P W:Aa} {G2:Nat->Prop} {b2:BS},RX h2 bi a P W t G2 b2->b2.AI=b1.AI->∃O M T C,A5 h2 zk (Pt bi 2)=zx P/\AA (.K9 4 zs zs z9) [P,I ((k+(n+1):Nat):Int)]=zx O/\AA (.append 4 40) [.slnil,O]=zx M/\AA (.K9 4 zs z9 zs) [P,I ((k+(n+1)+1:Nat):Int)]=zx T/\AA (.append 4 40) [M,T]=zx C/\Cy h2 1 (Pt bi 2) C=zx (yy h2 bi 2 C)/\RX (yy h2 bi 2 C) bi a C W t G2 {b2 with AI:=Bg b1.AI (k+(n+1))}:=by
    intro h2 P W G2 b2 B Q;have bX:BZ b1.AI P:=by rw[<-Q];exact B.o
    obtain⟨O,J,q1⟩:=AX.Mo bX (k:= .i64) (n:=k+(n+1)) Ab;obtain⟨M,H,q2⟩:=AX.Gg (b:=40) q1 (by rw[Ax];omega);obtain⟨T,E,q3⟩:=AX.TR bX (k:= .i64) (n:=k+(n+1)+1) Ab;obtain⟨C,D,q4⟩:=AX.i7 (b:=40) q2 q3 (by rw[Ax,Bi];omega);exact⟨O,M,T,C,B.ld 2,J,H,E,D,B.st (k:=2) (v0:=P) rfl (zt q4),B.H5 q4⟩
   by_cases he:D8 x.node b1.AW<0
   .obtain⟨O,M,T,C,_,J,H,E,D,Y,R⟩:=L j rfl;have es:({b1 with AI:=Bg b1.AI (k+(n+1))},last,mk)=yx d.node anc (k+1+N) (k+(n+1)) b1 last mk:=by unfold BS.FJ;simp only[Yg];rw[Af he]
    have y:=i.step es R K Bd qt i.XB;by_cases Ob:(3:Int)<((N-n:Nat):Int);.simp only[abS,zy,↓reduceIte,AQ,ER,we,wj,V,j.l3,r2,A8,s,Ob,(Ab:¬(0:Int)<=D8 x.node b1.AW),he,J,H,inc,E,D,Y,dec];exact zr (n,last,mk) rfl ⟨_,_,_,_,y⟩ DA
    .simp only[abS,zy,↓reduceIte,AQ,ER,we,wj,V,j.l3,r2,A8,s,Ob,he,J,H,inc,E,D,Y,dec];exact zr (n,last,mk) rfl ⟨_,_,_,_,y⟩ DA
   .obtain⟨p,hp,ep,Ov,cT,hp3⟩:=GZ (JR.1 he);have Et:(0:Int)<=(p:Int):=Ab;rw[ep] at r2;have ept:(D8 x.node b1.AW).toNat=p:=by rw[ep,A3]
    have hpf:b1.AW[p].node≠fe:=by rw[cT];exact hxf
    by_cases Ob:(3:Int)<((N-n:Nat):Int)
    .obtain⟨W,r3,JH,aLB⟩:=K.wo Ab hp h1;have B:=j.KC (u:=W) (l:=Bg b1.AW p);obtain⟨O,M,T,C,A,J,H,E,D,Y,R⟩:=L B rfl;have es:({b1 with AW:=Bg b1.AW p,AI:=Bg b1.AI (k+(n+1))},last,if p<mk then mk-1 else mk)=yx d.node anc (k+1+N) (k+(n+1)) b1 last mk:=by unfold BS.FJ;simp only[Yg];rw[Ac he,Af (Ab:k+(n+1)+3<k+1+N),ept]
     have y:=i.step es R JH (Bd.trans Bd) (by simp only;split<;>omega) (by simp only;rw[fM i.XB hp hpf];have:=i.XB;unfold down;split<;>omega);have s3:=j.st (k:=3) (v0:=X) rfl aLB;by_cases hpm:(p:Int)<(mk:Int);.have dm:=IK (n:=mk) Ab Ab;rw[Af (Ab:p<mk)] at y;simp only[abS,Nat.reduceLeDiff,↓reduceIte,AQ,ER,we,wj,V,j.l3,r2,A8,s,Ob,Et,r3,s3,hpm,dm,(Bf:(-1:Int)<0),A,J,H,inc,E,D,Y,dec];exact zr (n,last,mk-1) rfl ⟨_,_,_,_,y⟩ DA
     .rw[Ac (Ab:¬p<mk)] at y;simp only[abS,Nat.reduceLeDiff,↓reduceIte,AQ,ER,we,wj,V,j.l3,r2,A8,s,Ob,Et,r3,s3,hpm,(Bf:(-1:Int)<0),A,J,H,inc,E,D,Y,dec];exact zr (n,last,mk) rfl ⟨_,_,_,_,y⟩ DA
    .obtain⟨fs,Gp,hv⟩:=K;have HB:b1.AW.length=fs.length:=by rw[<-Gp,Ao]
     have aGv:p<fs.length:=Ab;have efp:fs[p].c=b1.AW[p]:=by simp only[<-Gp,CR]
     have Q:=z0 (k:= .i64) hv aGv;have ax:fs[p].v.cells=[fs[p].v]:=zt fs[p].ok;have hr:OG fs[p].c.name fs[p].v [I 2,.str fs[p].c.name,ff,S [],ff,S [],ff,ff,fs[p].v,ff,S [],.int .i32 0]:=⟨I 2,ff,S [],ff,S [],ff,ff,ff,S [],.int .i32 0,rfl⟩;have K6:=i.rm.DL _ (AN hp);rw[<-efp] at K6;obtain⟨h2,G2,r4,B,x2⟩:=aCh (m:=m+4*n) j i.ok.ba (i.rm.le Ab) i.nm hr fs[p].ok K6.2 K6.1 anc 1;obtain⟨õ,fr,le2⟩:=QP (nm:=fs[p].c.name) (at_:=fs[p].c.Aj) (p:=anc) i.ok Kn;have Ww:=JB (m:=m+4*n+1) (nm:=fs[p].c.name) (l:=fs[p].c.Aj) (sp:=1) (p:=anc) (i.rm.le Ab) K6.2;have OQ:(b1.Ex fs[p].c.name fs[p].c.Aj 1 anc).AI=b1.AI:=by unfold BS.Ex;rw[Af Kn]
     have Sk:(b1.Ex fs[p].c.name fs[p].c.Aj 1 anc).AW=b1.AW:=by unfold BS.Ex;rw[Af Kn]
     have es0:yx d.node anc (k+1+N) (k+(n+1)) b1 last mk=({b1.Ex fs[p].c.name fs[p].c.Aj 1 anc with a:=(b1.Ex fs[p].c.name fs[p].c.Aj 1 anc).a.Gs (b1.Hb fs[p].c.name fs[p].c.Aj 1).node last 0,AI:=(b1.Ex fs[p].c.name fs[p].c.Aj 1 anc).AI.set (k+(n+1)) (b1.Hb fs[p].c.name fs[p].c.Aj 1),AW:=(b1.Ex fs[p].c.name fs[p].c.Aj 1 anc).AW.set p {fs[p].c with node:=(b1.Hb fs[p].c.name fs[p].c.Aj 1).node}},(b1.Hb fs[p].c.name fs[p].c.Aj 1).node,if last=d.node then p+1 else mk):=by unfold BS.FJ;simp only[Yg];rw[Ac he,Ac Ab,ept,AS,An hp,FE,<-efp]
     have d_:=OC i.ok fr;have hna:=Rx i.ok fr;have hnf:(b1.Hb fs[p].c.name fs[p].c.Aj 1).node≠fe:=λQ=>fr.new (by rw[Q];exact i.feh);have aGw:(b1.Hb fs[p].c.name fs[p].c.Aj 1).name.length<=1000:=OE K6.1;simp only at d_ hna;generalize b1.Hb fs[p].c.name fs[p].c.Aj 1=g at*;generalize b1.Ex fs[p].c.name fs[p].c.Aj 1 anc=b2 at*;have A:A5 h2 zk (Pt bi 2)=zx U:=B.ld 2;have bX:BZ b1.AI U:=j.o;obtain⟨O,J,q1⟩:=AX.Mo bX (k:= .i64) (n:=k+(n+1)) Ab;obtain⟨M,H,q2⟩:=AX.Gg (b:=40) q1 (by rw[Ax];omega);have E:=AX.JU (a:=g) (b:=40) q2 (by rw[Ax];omega);obtain⟨C,D,q4⟩:=AX.TR bX (k:= .i64) (n:=k+(n+1)+1) Ab;obtain⟨u5,p5,q5⟩:=AX.i7 (f:=Item.row) (l:=b1.AI.take (k+(n+1))++[g]) (b:=40) .mk q4 (by rw[Aw,Ax,Bi,Bl];omega);have es5:b1.AI.take (k+(n+1))++[g]++b1.AI.drop (k+(n+1)+1)=b2.AI.set (k+(n+1)) g:=by rw[OQ,B1,Af fO,AK];rfl
     rw[es5] at q5;have em4:AA (.Dk 4) [.agg g.row]=zx (.sl 4 [g.row]):=M2;have s5:=B.st (k:=2) (v0:=U) rfl (zt q5);have w3:=B.H5 q5;have x3:=x2.trans (Bd (k:=2) (v:=u5));generalize put h2 bi 2 u5=h3 at*;have l33:=w3.l3;have hc0:B4 b1.AW X:=⟨fs,Gp,hv⟩;obtain⟨W,r6,JH,aLB⟩:=hc0.wo Ab hp h3;obtain⟨c3,r7,aLC,aQq⟩:=JH.wi (by rw[HI hp];omega) (e:={fs[p].c with node:=g.node}) fs[p].ok (by have:=K6.2.1;simp only;omega) (p:Int) h3;rw[WB (by rw[HI hp];omega),uL hp] at aLC;have s6:=w3.st (k:=3) (v0:=X) rfl aQq;have R:=w3.KC (u:=c3) (l:=b2.AW.set p {fs[p].c with node:=g.node});have hc4:B4 (b2.AW.set p {fs[p].c with node:=g.node}) c3:=by rw[Sk];exact aLC
     have x4:=x3.trans (Bd (k:=3) (v:=c3));generalize put h3 bi 3 c3=h4 at*;have ok3:=õ.yX (i:=g) (k:=k+(n+1)) ⟨fr.has,fr.kind,fr.A7,fr.name⟩ (by rw[OQ];exact d_);have wc:=ok3.yY (e:={fs[p].c with node:=g.node}) (k:=p) ⟨fr.has,fr.kind⟩ (by simp only[Sk];exact hna);have rm4:B0 {b2 with AI:=b2.AI.set (k+(n+1)) g,AW:=b2.AW.set p {fs[p].c with node:=g.node}} (m+4*n+1):=by
      refine⟨Ww.n,Ww.at_,Ww.data,by simp only[Br];exact Ww.AI,by simp only[Br];exact Ww.AW,Ww.tm,λe he=>?_,λi hi=>?_⟩
      .rcases DK he with he|rfl
       .exact Ww.DL e he
       .exact K6
      .rcases DK hi with hi|rfl
       .exact Ww.Xe i hi
       .exact aGw
     obtain⟨er,h6,G6,r8,w6,x6⟩:=R.oY wc.ba rm4 g.node last 0;have y:=i.step es0.symm w6 hc4 (x4.trans x6) (by simp only;split<;>omega) (by simp only;rw[Sk,tZ i.XB hp hpf hnf];exact i.XB);have Z:=R.l0;have incp:=By p;rw[Cp.row] at Q;by_cases Ti:last=d.node;.rw[Af Ti] at y;simp only[abS,Nat.reduceLeDiff,↓reduceIte,AQ,ER,we,wj,V,j.l3,r2,A8,s,Ob,(Ab:¬(p:Int)<0),Q,ax,r4,A,J,H,em4,E,inc,D,p5,s5,l33,r6,r7,s6,AE Ti,incp,Z,r8,dec];exact zr (n,g.node,p+1) rfl ⟨_,_,_,_,y⟩ DA
     .rw[Ac Ti] at y;simp only[abS,Nat.reduceLeDiff,↓reduceIte,AQ,ER,we,wj,V,j.l3,r2,A8,s,Ob,(Ab:¬(p:Int)<0),Q,ax,r4,A,J,H,em4,E,inc,D,p5,s5,l33,r6,r7,s6,Ti,Z,r8,dec];exact zr (n,g.node,mk) rfl ⟨_,_,_,_,y⟩ DA
 obtain⟨r,h',hr,o',c',G',s',rfl,e',i'⟩:=IJ.ret;exact⟨h',o',c',G',s',hr,e',i'⟩
end
def WC{nm:Ai}:∀{r:List B5} {j:Nat},QN nm r=(j:Int)->∃hj:j<zz r.reverse,r.reverse[j].node≠0
 |[],j,e=>by rw[QN] at e;omega
 |x::r,j,e=>by
  rw[QN] at e;split at e;.omega
  .rename_i h0;split at e
   .have d:j=zz r.reverse:=by rw[I2];omega
    subst d;exact⟨AH,zv h0⟩
   .let⟨hj,h1⟩:=WC e;refine⟨by simp at hj⊢;omega,?_⟩;simp[E5];rwa[IQ hj]
def be{nm:Ai}{l:List B5}{f:Nat}(e:DT nm l=(f:Int)):∃hf:f<zz l,l[f].node≠0:=by rw[DT] at e;let⟨hj,h⟩:=WC e;simp[Iz] at hj h;exact⟨hj,h⟩
def aQ{l:List B5}{n:Int}{q:Nat}(e:D8 n l=(q:Int)):uK n l=Bg l q:=by rw[uK];rw[e,Af Ab,A3]
section
variable{h h':Ah}{bi a:Nat}{o c t:Aa}{G G' F:Nat->Prop}{b:BS}{x:Int}{m:Nat}
variable{nm:Ai}{av:Aa}{l:List A9}{r:List Aa}{sp p:Int}
def B4.aD6{d:List B5}(hc:B4 d c)(hb:zz d<=900000000)(nm:Ai)(h:Ah):BK cx 352 [c,zm nm] h (I (DT nm d)) h:=by let⟨fs,Gp,hv⟩:=hc;have:=aO7 (h:=h) hv (by rw[<-Gp,Ao] at hb;omega) nm;rwa [oL,Gp] at this
set_option maxHeartbeats 1000000 in
def aLD(w:RX h bi a o c t G b)(hc:B4 b.AW c)(ok:ET b)(rm:B0 b (m+4*zz b.AI+10))(hnm:Nm b.a)(nm:Ai):
  ∃h' o' c' G',BK cx 223 [Pt bi 0,zm nm] h (zj (b.round nm).1) h'/\RX h' bi a o' c' t G' (b.round nm).2/\B4 (b.round nm).2.AW c'/\Du h (Bu bi G) h' (Bu bi G'):=by
 have ho:=rm.AI;have Sk:=rm.AW;have W0:∀i∈b.AI,zz i.name<9223372036854775807:=λi hi=>by have:=rm.Xe i hi;omega
 have l3:=w.l3;have ld:A5 h zk (Pt bi 2)=zx o:=w.ld 2;have R:=hc.aD6 Ab nm h;by_cases hf:DT nm b.AW<0
 .obtain⟨h2,o2,r2,Y,x2⟩:=aLw w rm nm;have e:b.round nm=(zs,b.Dz nm):=by unfold BS.round;simp only;rw[Af hf]
  have ea:(b.Dz nm).AW=b.AW:=by
   unfold BS.Dz;split;.split<;>rfl
   .rfl
  rw[e];refine⟨h2,o2,c,G,?_,Y,by rw[ea];exact hc,x2⟩;rw[Ad,RC];simp only[abS,l3,R,hf,r2]
 obtain⟨f,HB,X⟩:=OH (JR.1 hf);obtain⟨_,aB5⟩:=be X;have vS:¬(f:Int)<0:=Ab;rw[X] at R;have Jq:=hc;obtain⟨fs,Gp,hv⟩:=Jq;have aPT:zz b.AW=zz fs:=by rw[<-Gp,Ao]
 have efp:fs[f].c=b.AW[f]:=by simp only[<-Gp,CR]
 have Z:=z0 (k:= za) hv (Ab:f<zz fs);have aE:=l_ ok.sr HB aB5;have K6:=rm.DL _ (AN HB);have Yg:b.AW.getD f B5.zero=b.AW[f]:=by rw[AS,An HB];rfl
 rw[<-efp] at aE K6 Yg aB5;generalize hfe:fs[f]=fe at*;have ax:fe.v.cells=[fe.v]:=zt fe.ok;rw[Cp.row] at Z;have r2:=cR (h:=h) w.o Ab fe.c.node;by_cases hk:AZ (BE fe.c.node) b.AI<0
 .obtain⟨h2,c2,J,Y,JH,x2⟩:=Č w hc Ab fe.c.node;rw[aQ aE] at Y JH;have e:b.round nm=(zs,{b with AW:=Bg b.AW f}):=by unfold BS.round;simp only;rw[Ac hf,X,A3,Yg,Af hk]
  rw[e];refine⟨h2,o,c2,G,?_,Y,JH,x2⟩;rw[Ad,RC];simp only[abS,Nat.reduceLeDiff,↓reduceIte,l3,R,vS,Z,ld,r2,hk,J]
 obtain⟨k,W⟩:∃k:Nat,AZ (BE fe.c.node) b.AI=(k:Int):=⟨_,(E3 (JR.1 hk)).symm⟩;obtain⟨Re,hkq,_⟩:=Jg W;have tL:¬(k:Int)<0:=Ab;rw[W] at r2;have J:=aOZ (h:=h) w.o Ab W0 1 fe.c.node;by_cases RZ:HZ (BE fe.c.node) (HG 1) b.AI.reverse=zs
 .have e:b.round nm=(zs,b):=by unfold BS.round;simp only;rw[Ac hf,X,A3,Yg,Ac hk,Af (zh RZ)]
  rw[e];refine⟨h,o,c,G,?_,w,hc,.refl⟩;rw[RZ] at J;rw[Ad,RC];simp only[abS,Nat.reduceLeDiff,↓reduceIte,l3,R,vS,Z,ld,r2,tL,A8,J]
 have aGB:HZ (BE fe.c.node) (HG 1) b.AI.reverse=z9:=by simpa using RZ
 rw[aGB] at J;by_cases hkz:k=0
 .have e:b.round nm=(zs,b):=by unfold BS.round;simp only;rw[Ac hf,X,A3,Yg,Ac hk,Af (z2 (by rw[W,hkz];rfl))]
  rw[e];refine⟨h,o,c,G,?_,w,hc,.refl⟩;rw[Ad,RC];simp only[abS,Nat.reduceLeDiff,↓reduceIte,l3,R,vS,Z,ld,r2,tL,A8,J,AE (Ab:(k:Int)=0)]
 have uC:¬(k:Int)=0:=Ab;have r4:=aO0 (h:=h) w.o Ab W0 fe.c.node;have hor:¬(AZ (BE fe.c.node) b.AI=0\/HZ (BE fe.c.node) (HG 1) b.AI.reverse=zs):=by rw[W];rintro(h|h);exact uC h;exact RZ h
 by_cases hfa:Eg fe.c.node b.AI<0
 .have e:b.round nm=(zs,{b with AI:=Hu fe.c.node b.AI,AW:=Bg b.AW f}):=by unfold BS.round;simp only;rw[Ac hf,X,A3,Yg,Ac hk,Ac hor,Af hfa]
  obtain⟨u,t1,r5,hu⟩:=aJI (h:=h) w.o Ab fe.c.node;have w1:=w.HY (u:=t1);have Y:=w1.H5 hu;obtain⟨h3,c3,r6,w3,Ob,x3⟩:=Č Y hc DA fe.c.node;simp only at w3 Ob;rw[aQ aE] at w3 Ob;rw[e];refine⟨h3,u,c3,G,?_,w3,Ob,(w.C3.trans Bd).trans x3⟩;rw[Ad,RC];simp only[abS,Nat.reduceLeDiff,↓reduceIte,l3,R,vS,Z,ld,r2,tL,A8,J,uC,r4,hfa,r5,w1.st (k:=2) (v0:=o) rfl (AX.cells hu),r6]
 obtain⟨N,hN,eN⟩:∃N:Nat,k+1+N<zz b.AI/\Eg fe.c.node b.AI=((k+1+N:Nat):Int):=by
  have ay:=hfa;rw[Jb,Ac hk,W,A3] at ay⊢;unfold Fm at ay⊢;split at ay;.rename_i j hj;have:=(E4.1 hj).1;rw[Bi] at this;exact⟨j,Ab,Ab⟩
  .omega
 have e2:=z0 (k:= za) w.o hN;have e3:=z0 (k:= za) w.o (Ab:k-1<zz b.AI);obtain⟨d,tl⟩:∃d,d=b.AI[k+1+N]:=⟨_,rfl⟩;obtain⟨an,han⟩:∃an,an=b.AI[k-1]'(by omega):=⟨_,rfl⟩;rw[<-tl,Item.row] at e2;rw[<-han,Item.row] at e3;have zn:b.AI.getD (k+1+N) Item.zero=d:=by rw[AS,An hN,tl];rfl
 have hga:b.AI.getD (k-1) Item.zero=an:=by rw[AS,An Ab,han];rfl
 have e:b.round nm=(z9,BS.Hh fe.c d.node an.node (BS.K4 d.node an.node (k+1+N) k N (b,d.node,f))):=by
  unfold BS.round;simp only
  rw[Ac hf,X,A3,Yg,Ac hk,Ac hor,Ac hfa,W,eN,A3,A3,zn,hga,(Ab:k+1+N-1 -k=N)]
 have uc:=ok.op d (by rw[tl];exact AN _);have aGC:b.AI[k].node=fe.c.node:=by simpa[BE] using hkq
 have aB4:b.a.has fe.c.node:=by rw[<-aGC];exact(ok.op _ (AN _)).1
 have Xa:=IK (n:=k) Ab Ab;have le0:=(XI (blk:=d.node) (anc:=an.node) (far:=k+1+N) (k:=k) (c:=N) (s:=(b,d.node,f)) ok uc.1).2.2;obtain⟨h5,o5,c5,G5,s',r7,es,i⟩:=aLA (m:=m+10) (anc:=an.node) (fe:=fe.c.node) (f:=f) w hc ok (rm.le Ab) hnm hN Ab tl.symm W (by rw[aE];omega) aB4;rw[<-es] at le0 e;obtain⟨q,hq,tr,hq0,hq2,hq3⟩:=GZ i.XB;have qt:=i.mkb;have r8:=mm i.w i.ok.ba i.rm i.nm an.node;obtain⟨h7,G7,r9,w7,x7⟩:=ml i.w i.ok.ba i.rm (s'.1.place an.node).1 s'.2.1 (s'.1.place an.node).2;have le7:Le s'.1.a (s'.1.a.ES s'.2.1 (s'.1.place an.node).1 (s'.1.place an.node).2):=Jz;have T:=i.ok.JA (Ph (n:=s'.2.1) (p:=(s'.1.place an.node).1) (b:=(s'.1.place an.node).2) i.ok.ok) le7;have P:=i.rm.JA (Kv (x:=s'.2.1) (p:=(s'.1.place an.node).1) (bf:=(s'.1.place an.node).2));have nm7:Nm (s'.1.a.ES s'.2.1 (s'.1.place an.node).1 (s'.1.place an.node).2):=i.nm.ES;obtain⟨b2,PL⟩:∃b2,b2={s'.1 with a:=s'.1.a.ES s'.2.1 (s'.1.place an.node).1 (s'.1.place an.node).2}:=⟨_,rfl⟩;have bX:b2.AI=s'.1.AI:=by rw[PL]
 have JH:b2.AW=s'.1.AW:=by rw[PL]
 have le2:Le s'.1.a b2.a:=by rw[PL];exact le7
 have nm2:Nm b2.a:=by rw[PL];exact nm7
 rw[<-PL] at w7 T P;have hr:OG fe.c.name fe.v [I 2,zm fe.c.name,ff,S [],ff,S [],ff,ff,fe.v,ff,S [],zg yw 0]:=⟨I 2,ff,S [],ff,S [],ff,ff,ff,S [],zg yw 0,rfl⟩;obtain⟨h8,G8,r11,w8,x8⟩:=aCh (m:=m+7) w7 T.ba (P.le Ab) nm2 hr fe.ok K6.2 K6.1 d.node 1;obtain⟨Ł,fr,le8⟩:=QP (nm:=fe.c.name) (at_:=fe.c.Aj) (p:=d.node) T Kn;have O:=JB (m:=m+7) (nm:=fe.c.name) (l:=fe.c.Aj) (sp:=1) (p:=d.node) (P.le Ab) K6.2;obtain⟨g,hnw⟩:∃g,g=b2.Hb fe.c.name fe.c.Aj 1:=⟨_,rfl⟩;obtain⟨b3,vy⟩:∃b3,b3=b2.Ex fe.c.name fe.c.Aj 1 d.node:=⟨_,rfl⟩;have ho3:b3.AI=s'.1.AI:=by rw[vy,<-bX];unfold BS.Ex;rw[Af Kn]
 have Ob:b3.AW=s'.1.AW:=by rw[vy,<-JH];unfold BS.Ex;rw[Af Kn]
 rw[<-hnw] at r11 fr;rw[<-vy] at w8 Ł fr le8 O;have aKW:(b3.a.nd d.node).Be.length<=1000000000:=O.Wt.Be Ł.ok d.node;obtain⟨kv,r12,lp⟩:∃v,BK cx 211 [Pt a 0,I d.node] h8 v h8/\Ec (b3.a.nd d.node).Be v:=by obtain⟨n,i,ps,wa,_⟩:=w8.w;exact Ć wa aKW
 have fO:=λ(y:Item)=>@Item.CS y;have IJ:Ev cx 223 [Pt bi 0,zm nm] h λr h'=>r= zj z9/\∃o' c' G',RX h' bi a o' c' t G' (BS.Hh fe.c d.node an.node s')/\B4 (BS.Hh fe.c d.node an.node s').AW c'/\Du h (Bu bi G) h' (Bu bi G'):=by
  unfold Ev;rw[RC];simp only[abS,Nat.reduceLeDiff,↓reduceIte,ER,l3,R,vS,Z,ld,r2,tL,A8,J,uC,r4,eN,(Ab:¬((k+1+N:Nat):Int)<0),e2,Xa,e3];simp only[abS,Nat.reduceLeDiff,↓reduceIte,AQ,r7,r8,r9,ax];simp only[abS,↓reduceIte,ER,r11,fO,w8.l0,r12];have x8':Du h (Bu bi G) h8 (Bu bi G8):=(i.x.trans x7).trans x8;have hvl:=z3 lp;refine Dr (i:=0) (λj:Nat=>[I (j:Int)]) (λj V=>j<=(b3.a.nd d.node).Be.length/\∃L,RX V bi a o5 c5 t L {b3 with a:=yz b3.a g.node ((b3.a.nd d.node).Be.take j)}/\ET {b3 with a:=yz b3.a g.node ((b3.a.nd d.node).Be.take j)}/\B0 {b3 with a:=yz b3.a g.node ((b3.a.nd d.node).Be.take j)} (m+7)/\Du h8 (Bu bi G8) V (Bu bi L)) (λj=>(b3.a.nd d.node).Be.length-j)
   (λj V=>j=(b3.a.nd d.node).Be.length/\∃L,RX V bi a o5 c5 t L {b3 with a:=yz b3.a g.node ((b3.a.nd d.node).Be.take j)}/\ET {b3 with a:=yz b3.a g.node ((b3.a.nd d.node).Be.take j)}/\B0 {b3 with a:=yz b3.a g.node ((b3.a.nd d.node).Be.take j)} (m+7)/\Du h8 (Bu bi G8) V (Bu bi L)) 0 rfl ⟨AV _,G8,w8,Ł,O,.refl⟩ ?_ ?_
  .rintro j V ⟨hj,L,H,az,ma,x9⟩;obtain hlt|Et:=AP j (b3.a.nd d.node).Be.length
   .have e9:=z0 (k:= za) lp hlt;obtain⟨er,Yc,z,Ā,VF,mb⟩:=H.oY az.ba ma g.node (b3.a.nd d.node).Be[j] 0;have hs:yz b3.a g.node ((b3.a.nd d.node).Be.take (j+1))=(yz b3.a g.node ((b3.a.nd d.node).Be.take j)).Gs g.node (b3.a.nd d.node).Be[j] 0:=by rw[AB hlt,Sp]
    rw[Cb] at e9;simp only[abS,hvl,(Ab:(j:Int)<((b3.a.nd d.node).Be.length:Int)),H.l0,e9,Ā,By j];refine .next (j+1) rfl ⟨hlt,z,by rw[hs];exact VF,?_,?_,x9.trans mb⟩ Ab
    .have:=az.JA (Rt (p:=g.node) (n:=(b3.a.nd d.node).Be[j]) (b:=0) az.ok) Pg;rw[hs];exact this
    .have:=ma.JA (Ku (p:=g.node) (x:=(b3.a.nd d.node).Be[j]) (bf:=0));rw[hs];exact this
   .simp only[abS,hvl,(Ab:¬(j:Int)<((b3.a.nd d.node).Be.length:Int))];exact .He j rfl ⟨Ab,L,H,az,ma,x9⟩
  .rintro j V ⟨rfl,L,H,az,ma,x9⟩;rw[Bt] at H az ma;obtain⟨er,Yc,z,Ā,VF,mb⟩:=H.oY az.ba ma d.node g.node 0;have aB7:B4 ({b3 with a:=(yz b3.a g.node (b3.a.nd d.node).Be).Gs d.node g.node 0}:BS).AW c5:=by simp only;rw[Ob];exact i.hc
   have hqa:=i.rm.AW;have zu:D8 fe.c.node b3.AW=(q:Int):=by rw[Ob];exact tr
   have C:=aB7.ix (n:=0) (by simp only;rw[Ob];omega) fe.c.node Yc;simp only at C;rw[zu] at C;obtain⟨iT,TO,r15,A,ud,x11⟩:=Č VF aB7 (by simp only;rw[Ob];omega) fe.c.node;simp only at A ud;rw[aQ zu] at A ud;obtain⟨VE,Xo⟩:∃VE:Nat,VE=if q<s'.2.2 then s'.2.2 -1 else s'.2.2:=⟨_,rfl⟩
   have vT:(Bg b3.AW q).length=b3.AW.length-1:=HI (by rw[Ob];exact hq);have VV:zz b3.AW=s'.1.AW.length:=by rw[Ob]
   obtain⟨u1,Q,aCb,U⟩:=ud.wi Ab (e:={fe.c with node:=g.node}) fe.ok (by have:=K6.2.1;simp only;omega) (VE:Int) iT;have l11:=A.l3;have s12:=A.st (k:=3) (v0:=TO) rfl U;have B:=A.KC (u:=u1) (l:=(Bg b3.AW q).take (CL VE (Bg b3.AW q).length)++{fe.c with node:=g.node}::(Bg b3.AW q).drop (CL VE (Bg b3.AW q).length));have x12:=x11.trans (Bd (bi:=bi) (G:=z) (h:=iT) (k:=3) (v:=u1));generalize put iT bi 3 u1=E at*;have hob:=i.rm.AI;have vt:zz b3.AI=s'.1.AI.length:=by rw[ho3]
   have aLE:A5 E zk (Pt bi 2)=zx o5:=B.ld 2;obtain⟨u2,t2,r17,Ja⟩:=aJK (h:=E) B.o DA fe.c.node;simp only at Ja;have w13:=B.HY (u:=t2);have s13:=w13.st (k:=2) (v0:=o5) rfl (zt Ja);have M:=w13.H5 Ja;have x14:=(x12.trans B.C3).trans (Bd (bi:=bi) (G:=z) (h:=E++t2) (k:=2) (v:=u2));generalize put (E++t2) bi 2 u2=D at*;have vP:(CN fe.c.node b3.AI).length<=s'.1.AI.length:=by rw[<-ho3];exact Jf.length_le
   have aLF:A5 D zk (Pt bi 2)=zx u2:=M.ld 2;have r18:=cR (h:=D) Ja Ab d.node;have hli: -1<=AZ (BE d.node) (CN fe.c.node b3.AI)/\AZ (BE d.node) (CN fe.c.node b3.AI)<=(CN fe.c.node b3.AI).length:=by rcases Dy (q:=BE d.node) (l:=CN fe.c.node b3.AI) with⟨h,_⟩|⟨n,h1,h2,_⟩<;>omega
   have add:=Pd (a:=AZ (BE d.node) (CN fe.c.node b3.AI)) (b:=1) Ab Ab;obtain⟨u3,r19,hu3⟩:=aO6 (h:=D) Ja Ab g (AZ (BE d.node) (CN fe.c.node b3.AI)+1);have s15:=M.st (k:=2) (v0:=u2) rfl (zt hu3);have w15:=M.H5 hu3;have x15:=x14.trans (Bd (bi:=bi) (G:=z) (h:=D) (k:=2) (v:=u3));have hE:BS.Hh fe.c d.node an.node s'={b3 with a:=(yz b3.a g.node (b3.a.nd d.node).Be).Gs d.node g.node 0,AW:=(Bg b3.AW q).take (CL VE (Bg b3.AW q).length)++{fe.c with node:=g.node}::(Bg b3.AW q).drop (CL VE (Bg b3.AW q).length),AI:=(CN fe.c.node b3.AI).take (Fo (AZ (BE d.node) (CN fe.c.node b3.AI)+1) (CN fe.c.node b3.AI).length)++g::(CN fe.c.node b3.AI).drop (Fo (AZ (BE d.node) (CN fe.c.node b3.AI)+1) (CN fe.c.node b3.AI).length)}:=by
    unfold BS.Hh;simp only
    rw[<-PL,<-vy,<-hnw,zu,A3,<-Xo]
   have K:=VF.l3;by_cases hqm:(q:Int)<(s'.2.2:Int);.have dm:=IK (n:=s'.2.2) Ab Ab;rw[Af (Ab:q<s'.2.2)] at Xo;rw[<-Xo] at dm;simp only[abS,Nat.reduceLeDiff,↓reduceIte,AQ,ER,H.l0,Ā,K,C,hqm,A8,dm,r15,l11,ax];simp only[BD,Q,s12,aLE,r17,s13,aLF,r18,BN,add,r19,s15];rw[hE];exact⟨_,rfl,rfl,u3,u1,z,w15,aCb,(x8'.trans (x9.trans mb)).trans x15⟩
   .rw[Ac (Ab:¬q<s'.2.2)] at Xo;rw[Xo] at Q;simp only[abS,Nat.reduceLeDiff,↓reduceIte,AQ,ER,H.l0,Ā,K,C,hqm,A8,r15,l11,ax];simp only[BD,Q,s12,aLE,r17,s13,aLF,r18,BN,add,r19,s15];rw[hE];exact⟨_,rfl,rfl,u3,u1,z,w15,aCb,(x8'.trans (x9.trans mb)).trans x15⟩
 obtain⟨r,h',hr,rfl,o',c',G',w',Jq,x'⟩:=IJ.ret;rw[e];exact⟨h',o',c',G',hr,w',Jq,x'⟩
end
end Go.Am
end
