/- Lemmas -/
import Derived.Test.YtffmdapalbecoaaGreatDoorO27
set_option linter.all false
open List renaming replicate→zu,length→z9
open Nat renaming reduceLeDiff→zy
open Option renaming some→zx,none→zf
open Bool renaming false→zw,true→zb
open Go.Am.Item renaming row→zt
open Go.Am.DG renaming cells→zs
open Go.Am.Aa renaming slnil→zq,bool→zp,int→zm,agg→zj,tuple→zh,str→zd,func→z1,ptr→z8
open Go.Am.AX renaming cells→zn
open Go.Am.Oc renaming len→yz
open Go.IntKind renaming i32→za,i64→z5
open Go.Am.Cp renaming row→z0
open Go.Fn renaming func→z3
open Go.Am.B5 renaming zero→z4
open Go.Am.AJ renaming next→z6
open Go.Am.BS renaming IW→z7
noncomputable section
set_option maxHeartbeats 0
set_option maxRecDepth 100000
section
namespace Go.Am
open Go
namespace BS
def F9(b:BS)(nm:Ai)(k:Nat):Option Int:=
 if nm=LK then zx (J3 (b.AI.take k))
 else if nm=V_ then(if k=0 then zx 7 else zx 15)
 else if nm=W_ then(if k=0 then zx 7 else zx 15)
 else if nm=wTr then zx 14
 else if nm=Vp then zx 13
 else if nm=Vr then zx 13
 else if nm=Vq then zx 13
 else if nm=T4 then zx 11
 else if nm=Ru then zx 12
 else if nm=Fw then zx 9
 else if nm=AO then zx (b.tm.getLast?.getD 7)
 else if nm=Sj then(if k=0 then zx 7 else zx 4)
 else if nm=ic then zx 7
 else if nm=Rv then zx 20
 else if nm=DQ then zx (if b.head=0 then 3 else 6)
 else if k=0 then zx 7 else zf
end BS
section
variable{h h':Ah}{bi a:Nat}{o c t:Aa}{G G' F:Nat->Prop}{b:BS}{x:Int}{m:Nat}
def č{nd:Int}{nm:Ai}{v:Bool}{k:Nat}:b.HH ⟨nd,1,nm,v⟩ k=b.F9 nm k:=by
 unfold BS.HH BS.F9;simp[BR];by_cases u:nm=LK;.subst u;cases k<;>rfl
 by_cases s:nm=V_;.subst s;cases k<;>rfl
 by_cases q:nm=W_;.subst q;cases k<;>rfl
 by_cases p:nm=wTr;.subst p;cases k<;>rfl
 by_cases n:nm=Vp;.subst n;cases k<;>rfl
 by_cases l:nm=Vr;.subst l;cases k<;>rfl
 by_cases j:nm=Vq;.subst j;cases k<;>rfl
 by_cases i:nm=T4;.subst i;cases k<;>rfl
 by_cases g:nm=Ru;.subst g;cases k<;>rfl
 by_cases f:nm=Fw;.subst f;cases k<;>rfl
 by_cases o8:nm=AO;.subst o8;cases k<;>rfl
 by_cases vX:nm=Sj;.subst vX;cases k<;>rfl
 by_cases mo:nm=ic;.subst mo;cases k<;>rfl
 by_cases wk:nm=Rv;.subst wk;cases k<;>rfl
 by_cases d:nm=DQ;.subst d;cases k<;>rfl
 have hf:(JX.find? λr=>decide (r.1=nm))=zf:=by
  rw[Q8];intro r hr;simp[JX,AR,D1,L8] at hr;obtain rfl|rfl|rfl|rfl|rfl|rfl|rfl|rfl|rfl:=hr<;>simp[Cd]<;>intro e
  .exact p e.symm
  .exact n e.symm
  .exact l e.symm
  .exact j e.symm
  .exact i e.symm
  .exact g e.symm
  .exact f e.symm
  .exact mo e.symm
  .exact wk e.symm
 simp[hf,u,s,q,p,n,l,j,i,g,f,o8,vX,mo,wk,d,EV,bO]
def Ď{i:Item}{k:Nat}(h:¬i.A7=1):b.HH i k=if k=0 then zx 7 else zf:=by rw[BS.HH];rw[Ac h]
def aLG(w:RX h bi a o c t G b)(rm:B0 b m){k:Nat}(hk:k<=z9 b.AI):BK cx 357 [Pt bi 0,I (k:Int)] h (I (BS.J3 (b.AI.take k))) h:=by
 have ho:=rm.AI;have ld:A5 h zf (Pt bi 2)=zx o:=w.ld 2;simp only[Ad,aBp,BD,C0 ((k:Int)) 1];refine Bj (λn:Nat=>[I 0,I ((n:Int)-1)]) (λn h1=>n<=k/\((b.AI.take k).reverse.find? λi=>AU [AO] i||AU [Fw] i)=((b.AI.take n).reverse.find? λi=>AU [AO] i||AU [Fw] i)/\h1=h) (λn=>n) k rfl ⟨Ae _,rfl,rfl⟩ ?_;rintro n h1 ⟨hn,ha,rfl⟩;cases n with
 |zero=>simp[abS,(Ab:¬(0:Int)<=((0:Nat):Int)-1)];rw[BS.J3];rw[ha];rfl
 |succ n=>
  have hlt:n<z9 b.AI:=Ab;have i1:((n+1:Nat):Int)-1=(n:Int):=Ab;have g:=AX.BG (k:= z5) w.o hlt;have e:AA (.Dk 1) [S AO]=zx (.sl 1 ([AO].map Cr)):=D2 (ws:=[AO]) rfl Bf;have tz:AA (.Dk 1) [S Fw]=zx (.sl 1 ([Fw].map Cr)):=D2 (ws:=[Fw]) rfl Bf;have r2:=f167 (h:=h1) b.AI[n] (Cw (ws:=[AO])) Bf;have f:=f167 (h:=h1) b.AI[n] (Cw (ws:=[Fw])) Bf;rw[M9 hlt,DZ] at ha;generalize b.AI[n]=i at*;simp only[abS,zy,ER,i1,MW,ld,g,e,r2,tz,f,C0 ((n:Int)) 1];rw[C5];refine⟨λh2=>?_,λh2=>?_⟩;.simp only[h2,VN] at ha;simp[BS.J3,ha,h2,BR]
  .simp only[h2,GM] at ha;rw[C5];refine⟨λd=>?_,λd=>?_⟩;.rw[d] at ha;simp[BS.J3,ha,h2,CA,EV]
   .rw[d] at ha;exact z6 n rfl ⟨Ab,ha,rfl⟩ Ab
section
variable(w:RX h bi a o c t G b)
def aLH(rm:B0 b m)(i:Item){k:Nat}(hk:k<=z9 b.AI):BK cx 224 [Pt bi 0,zj i.row,I (k:Int),zp (decide (k=0))] h (zh [I ((b.HH i k).getD 7),zp (b.HH i k).isSome]) h:=by
 have B:=rm.tm;have l6:=w.l6;have l7:=w.l7;have lt:=AX.CK w.t;let⟨nd,sp,nm,D⟩:=i;by_cases hs:sp=1;rotate_left
 .rw[Ď (by exact hs),Ad,js];by_cases u:k=0;.simp only[abS,zt,hs,u,DO,FE,pQ]
  .simp only[abS,zt,hs,u,DX,cz,aRw]
 subst hs;rw[č,Ad,js];by_cases d:nm=LK
 .have e:b.F9 nm k=zx (BS.J3 (b.AI.take k)):=by unfold BS.F9;rw[Af d]
  simp only[e,BD,JO,Item.row,AE d,aLG w rm hk]
 by_cases f:nm=V_
 .have e:b.F9 nm k=(if k=0 then zx 7 else zx 15):=by unfold BS.F9;rw[Ac d,Af f]
  rw[e];by_cases u:k=0;.simp only[abS,JO,zt,d,AE f,u]
  .simp only[abS,JO,zt,d,AE f,u]
 by_cases g:nm=W_
 .have e:b.F9 nm k=(if k=0 then zx 7 else zx 15):=by unfold BS.F9;rw[Ac d,Ac f,Af g]
  rw[e];by_cases u:k=0;.simp only[abS,JO,zt,d,f,AE g,u]
  .simp only[abS,JO,zt,d,f,AE g,u]
 by_cases j:nm=wTr
 .have e:b.F9 nm k=zx 14:=by unfold BS.F9;rw[Ac d,Ac f,Ac g,Af j]
  simp only[e,BD,JO,Item.row,d,f,g,AE j]
 by_cases l:nm=Vp
 .have e:b.F9 nm k=zx 13:=by unfold BS.F9;rw[Ac d,Ac f,Ac g,Ac j,Af l]
  simp only[e,BD,JO,Item.row,d,f,g,j,AE l]
 by_cases n:nm=Vr
 .have e:b.F9 nm k=zx 13:=by unfold BS.F9;rw[Ac d,Ac f,Ac g,Ac j,Ac l,Af n]
  simp only[e,BD,JO,Item.row,d,f,g,j,l,AE n]
 by_cases p:nm=Vq
 .have e:b.F9 nm k=zx 13:=by unfold BS.F9;rw[Ac d,Ac f,Ac g,Ac j,Ac l,Ac n,Af p]
  simp only[e,BD,JO,Item.row,d,f,g,j,l,n,AE p]
 by_cases q:nm=T4
 .have e:b.F9 nm k=zx 11:=by unfold BS.F9;rw[Ac d,Ac f,Ac g,Ac j,Ac l,Ac n,Ac p,Af q]
  simp only[e,BD,JO,Item.row,d,f,g,j,l,n,p,AE q]
 by_cases r:nm=Ru
 .have e:b.F9 nm k=zx 12:=by unfold BS.F9;rw[Ac d,Ac f,Ac g,Ac j,Ac l,Ac n,Ac p,Ac q,Af r]
  simp only[e,BD,JO,Item.row,d,f,g,j,l,n,p,q,AE r]
 by_cases s:nm=Fw
 .have e:b.F9 nm k=zx 9:=by unfold BS.F9;rw[Ac d,Ac f,Ac g,Ac j,Ac l,Ac n,Ac p,Ac q,Ac r,Af s]
  simp only[e,BD,JO,Item.row,d,f,g,j,l,n,p,q,r,AE s]
 by_cases o8:nm=AO
 .have e:b.F9 nm k=zx (b.tm.getLast?.getD 7):=by unfold BS.F9;rw[Ac d,Ac f,Ac g,Ac j,Ac l,Ac n,Ac p,Ac q,Ac r,Ac s,Af o8]
  rw[e];by_cases ht:b.tm=[]
  .have y:AA (yz zw) [t]=zx (I 0):=by rw[lt,ht];rfl
   simp only[BD,JO,Item.row,d,f,g,j,l,n,p,q,r,s,AE o8,l6,y,ht,vM]
  .have hpos:=Ej.2 ht;have A:=AX.BG (k:= z5) w.t (Ab:z9 b.tm-1<z9 b.tm);have C:b.tm.getLast?.getD 7=b.tm[z9 b.tm-1]:=by rw[Li,An Ab];rfl
   rw[Cb] at A;simp only[BD,JO,Item.row,d,f,g,j,l,n,p,q,r,s,AE o8,l6,lt,(Ab:(0:Int)<(b.tm.length:Int)),IK hpos (Ab:b.tm.length<9223372036854775807),A,C]
 by_cases vX:nm=Sj
 .have e:b.F9 nm k=(if k=0 then zx 7 else zx 4):=by unfold BS.F9;rw[Ac d,Ac f,Ac g,Ac j,Ac l,Ac n,Ac p,Ac q,Ac r,Ac s,Ac o8,Af vX]
  rw[e];by_cases u:k=0;.simp only[abS,JO,zt,d,f,g,j,l,n,p,q,r,s,o8,AE vX,u]
  .simp only[abS,JO,zt,d,f,g,j,l,n,p,q,r,s,o8,AE vX,u]
 by_cases mo:nm=ic
 .have e:b.F9 nm k=zx 7:=by unfold BS.F9;rw[Ac d,Ac f,Ac g,Ac j,Ac l,Ac n,Ac p,Ac q,Ac r,Ac s,Ac o8,Ac vX,Af mo]
  simp only[e,BD,JO,Item.row,d,f,g,j,l,n,p,q,r,s,o8,vX,AE mo]
 by_cases wk:nm=Rv
 .have e:b.F9 nm k=zx 20:=by unfold BS.F9;rw[Ac d,Ac f,Ac g,Ac j,Ac l,Ac n,Ac p,Ac q,Ac r,Ac s,Ac o8,Ac vX,Ac mo,Af wk]
  simp only[e,BD,JO,Item.row,d,f,g,j,l,n,p,q,r,s,o8,vX,mo,AE wk]
 by_cases v:nm=DQ
 .have e:b.F9 nm k=zx (if b.head=0 then 3 else 6):=by unfold BS.F9;rw[Ac d,Ac f,Ac g,Ac j,Ac l,Ac n,Ac p,Ac q,Ac r,Ac s,Ac o8,Ac vX,Ac mo,Ac wk,Af v]
  rw[e];by_cases z:b.head=0;.simp only[BD,JO,zt,d,f,g,j,l,n,p,q,r,s,o8,vX,mo,wk,AE v,l7,z]
  .simp only[BD,JO,zt,d,f,g,j,l,n,p,q,r,s,o8,vX,mo,wk,AE v,l7,z]
 have e:b.F9 nm k=if k=0 then zx 7 else zf:=by unfold BS.F9;rw[Ac d,Ac f,Ac g,Ac j,Ac l,Ac n,Ac p,Ac q,Ac r,Ac s,Ac o8,Ac vX,Ac mo,Ac wk,Ac v]
 rw[e];by_cases u:k=0;.simp only[abS,JO,zt,d,f,g,j,l,n,p,q,r,s,o8,vX,mo,wk,v,u]
 .simp only[abS,JO,zt,d,f,g,j,l,n,p,q,r,s,o8,vX,mo,wk,v,u]
end
def aCm(w:RX h bi a o c t G b)(rm:B0 b m):
  ∃h',BK cx 95 [Pt bi 0] h (.tuple []) h'/\RX h' bi a o c t G b.H7/\Du h (Bu bi G) h' (Bu bi G):=by
 have ho:=rm.AI;have ld:A5 h zf (Pt bi 2)=zx o:=w.ld 2;have lo:=AX.CK w.o;have Ti:=w.l9;have hlc:=w.aBY;have IJ:Ev cx 95 [Pt bi 0] h λr h'=>r= .tuple []/\RX h' bi a o c t G b.H7/\Du h (Bu bi G) h' (Bu bi G):=by
  unfold Ev;rw[aFV];simp only[BD,ld,lo,C0 ((b.AI.length:Int)) 1];have Ia:∀v,Cy h 1 (Pt bi 4) (I v)=zx (Am.put h bi 4 (I v)):=λv=>w.st (k:=4) rfl rfl;refine Bj (λn:Nat=>[I ((n:Int)-1)]) (λn h1=>n<=b.AI.length/\b.Mi b.AI.length=b.Mi n/\h1=h) (λn=>n) b.AI.length rfl ⟨Ae _,rfl,rfl⟩ ?_;rintro n h1 ⟨hn,ha,rfl⟩;cases n with
  |zero=>
   have e:b.H7={b with mode:=7}:=by unfold BS.H7;rw[ha];rfl
   simp only[abS,↓reduceIte,(Ab:¬(0:Int)<=((0:Nat):Int)-1),Ia];exact⟨_,rfl,rfl,by rw[e];exact w.tV 7,Bd⟩
  |succ n=>
   have hlt:n<b.AI.length:=Ab;have i1:((n+1:Nat):Int)-1=(n:Int):=Ab;have g:=AX.BG (k:= .i64) w.o hlt;have d:=aLH w rm (b.EY n) (k:=n) Ab;have e:b.Mi (n+1)=match b.HH (b.EY n) n with|zx m=>m|zf=>b.Mi n:=rfl
   rw[e] at ha;have Qq:=C0 ((n:Int)) 1;have i:∀(h0:n≠0\/b.Mz=zw),b.EY n=b.AI[n]:=λh0=>by unfold BS.EY;rw[Ac (by rintro⟨h1,h2⟩;rcases h0 with h0|h0;exact h0 h1;rw[h0] at h2;exact absurd h2 Bf),AS,An hlt];rfl
   have j:n=0->b.Mz=zb->b.EY n=b.ctx:=λh0 hf=>by unfold BS.EY;rw[Af ⟨h0,hf⟩]
   have He:∀v,b.HH (b.EY n) n=zx v->RX (Am.put h1 bi 4 (I v)) bi a o c t G b.H7:=λv hm=>by
    rw[hm] at ha;have e:b.H7={b with mode:=v}:=by unfold BS.H7;rw[ha]
    rw[e];exact w.tV v
   have f:b.HH (b.EY n) n=zf->b.Mi b.AI.length=b.Mi n:=λhm=>by rw[hm] at ha;exact ha
   generalize hx:b.AI[n]=x at*;by_cases h0:n=0
   .have bZ:((n:Int)=0)=True:=AE Ab;rw[As h0] at d;cases hf:b.Mz with
    |true=>
     rw[j h0 hf] at d He f;rw[hf] at Ti;cases hm:b.HH b.ctx n with
     |none=>rw[hm] at d;simp only[BD,Nat.reduceLeDiff,↓reduceIte,ER,i1,MW,ld,g,bZ,Ti,hlc,d,Qq,JO];exact z6 n rfl ⟨Ab,f hm,rfl⟩ Ab
     |some v=>rw[hm] at d;simp only[BD,Nat.reduceLeDiff,↓reduceIte,ER,i1,MW,ld,g,bZ,Ti,hlc,d,Ia,JO];exact⟨_,rfl,rfl,He v hm,Bd⟩
    |false=>
     rw[i (.inr hf)] at d He f;rw[hf] at Ti;cases hm:b.HH x n with
     |none=>rw[hm] at d;simp only[BD,Nat.reduceLeDiff,↓reduceIte,ER,i1,MW,ld,g,bZ,Ti,d,Qq,JO];exact z6 n rfl ⟨Ab,f hm,rfl⟩ Ab
     |some v=>rw[hm] at d;simp only[BD,Nat.reduceLeDiff,↓reduceIte,ER,i1,MW,ld,g,bZ,Ti,d,Ia,JO];exact⟨_,rfl,rfl,He v hm,Bd⟩
   .have bZ:¬(n:Int)=0:=by omega
    rw[Al h0] at d;rw[i (.inl h0)] at d He f;cases hm:b.HH x n with
    |none=>rw[hm] at d;simp only[BD,Nat.reduceLeDiff,↓reduceIte,ER,i1,MW,ld,g,bZ,d,Qq,JO];exact z6 n rfl ⟨Ab,f hm,rfl⟩ Ab
    |some v=>rw[hm] at d;simp only[BD,Nat.reduceLeDiff,↓reduceIte,ER,i1,MW,ld,g,bZ,d,Ia,JO];exact⟨_,rfl,rfl,He v hm,Bd⟩
 obtain⟨r,h',hr,rfl,w',x'⟩:=IJ.ret;exact⟨h',hr,w',x'⟩
section
variable(w:RX h bi a o c t G b)(hc:B4 b.AW c)
def aQs(rm:B0 b m):
  ∃h' o' c' t',BK cx 97 [Pt bi 0] h (zh []) h'/\RX h' bi a o' c' t' G b.CT/\B4 b.CT.AW c'/\Du h (Bu bi G) h' (Bu bi G):=by
 have cF:A0=140737488355328:=rfl;have ho:=rm.AI;have Sk:=rm.AW;have Z:=rm.tm;have W0:∀i∈b.AI,z9 i.name<9223372036854775807:=λi hi=>by have:=rm.Xe i hi;omega
 have ld:A5 h zf (Pt bi 2)=zx o:=w.ld 2;have H:=aBI (h:=h) w.o Ab AO;by_cases Gt:AZ (AU [AO]) b.AI<0;.refine⟨h,o,c,t,?_,by rw[BS.CT];rwa[Af Gt],by rw[BS.CT];rwa[Af Gt],.refl⟩;simp only[Ad,zV,abS,ld,H,Gt]
 let⟨A,E,r2,PU⟩:=f165 (h:=h) w.o Ab W0 [] zb;have Ia:EX [] zb=CM:=by funext a;rfl
 rw[Ia] at PU;have w0:=w.HY (u:=E);have N:=w0.st (k:=2) (v0:=o) rfl (zn PU);have w1:=w0.H5 PU;have T:=w.C3.trans (Bd (bi:=bi) (G:=G) (h:=h++E) (k:=2) (v:=A));have l1:(DI CM Cx b.AI).length<=z9 b.AI:=Rq;generalize put (h++E) bi 2 A=h1 at*;have wj:A5 h1 zf (Pt bi 2)=zx A:=w1.ld 2;let⟨g,t2,P,Ja⟩:=f85 (h:=h1) PU Ab (Cw (ws:=[AO])) Bf;rw[<-M3] at Ja;have f:=w1.HY (u:=t2);have M:=f.st (k:=2) (v0:=A) rfl (zn Ja);have D:=f.H5 Ja;have S:=(T.trans w1.C3).trans (Bd (bi:=bi) (G:=G) (h:=h1++t2) (k:=2) (v:=g));generalize put (h1++t2) bi 2 g=h2 at*;have j:=D.l3;let⟨fs,Gp,hcs⟩:=hc;have HB:z9 fs=z9 b.AW:=by rw[<-Gp,Ao]
 let⟨d,O,y⟩:=f84 (h:=h2) hcs Ab;have L:=D.st (k:=3) (v0:=c) rfl (zn y);have z:=D.KC (u:=d) (l:=GB b.AW);have K:=S.trans (Bd (bi:=bi) (G:=G) (h:=h2) (k:=3) (v:=d));have Ob:B4 (GB b.AW) d:=⟨_,by rw[Ye,Gp],y⟩;generalize put h2 bi 3 d=h3 at*;have lt:=AX.CK w.t;have l6:=z.l6;have e:b.CT=BS.H7 {b with AI:=DI Cx (AU [AO]) (DI CM Cx b.AI),AW:=GB b.AW,tm:=b.tm.dropLast}:=by rw[BS.CT];rw[Ac Gt]
 have sO:(DI Cx (AU [AO]) (DI CM Cx b.AI)).Sublist b.AI:=(C9 (p:=Cx) (q:=AU [AO]) (l:=DI CM Cx b.AI)).trans C9;by_cases h0:b.tm=[]
 .have C:RX h3 bi a g d t G {b with AI:=DI Cx (AU [AO]) (DI CM Cx b.AI),AW:=GB b.AW,tm:=b.tm.dropLast}:=by
   have:b.tm.dropLast=b.tm:=by rw[h0];rfl
   rwa[this]
  let⟨h4,Y,B,R⟩:=aCm C (rm.sub (b':={b with AI:=DI Cx (AU [AO]) (DI CM Cx b.AI),AW:=GB b.AW,tm:=b.tm.dropLast}) rfl sO (CB _ _) AH);refine⟨h4,g,d,t,?_,by rwa[e],by rwa[e],K.trans R⟩;have J:AA (yz zw) [t]=zx (I 0):=by rw[lt,h0];rfl
  simp only[Ad,zV,BD,ld,H,Gt,r2,N,wj,tW,P,M,j,O,L,l6,J,Y,JO]
 .have hpos:=Ej.2 h0;let⟨u4,e4,s⟩:=AX.Mo w.t (k:= z5) (n:=z9 b.tm-1) Ab;rw[<-aH2] at s;let⟨V,e5,r⟩:=AX.Gg (b:=8) s EP;have W:=z.st (k:=6) (v0:=t) rfl (zn r);have B:=z.oS r;let⟨h5,X,U,Q⟩:=aCm B (rm.sub (b':={b with AI:=DI Cx (AU [AO]) (DI CM Cx b.AI),AW:=GB b.AW,tm:=b.tm.dropLast}) rfl sO (CB _ _) AH);refine⟨h5,g,d,V,?_,by rwa[e],by rwa[e],(K.trans Bd).trans Q⟩;simp only[Ad,zV,BD,ld,H,Gt,r2,N,wj,tW,P,M,j,O,L,l6,lt,(Ab:(0:Int)<(b.tm.length:Int)),IK hpos (Ab:b.tm.length<9223372036854775807),e4,e5,W,X,JO]
def aLI(ok:ET b)(rm:B0 b (m+8*(4*(z9 b.AI+8)+10)))(hnm:Nm b.a)(nm:Ai):
  ∃h' o' c' G',BK cx 94 [Pt bi 0,zd nm] h (zh []) h'/\RX h' bi a o' c' t G' (b.CI nm)/\B4 (b.CI nm).AW c'/\Du h (Bu bi G) h' (Bu bi G'):=by
 have ho:=rm.AI;have Sk:=rm.AW;have ld:A5 h zf (Pt bi 2)=zx o:=w.ld 2;have z:=Ĉ w rm;have em:AA (.Dk 1) [zd nm]=zx (.sl 1 ([nm].map Cr)):=D2 (ws:=[nm]) rfl AH;have r2:BK cx 217 [zj (DB b.AI).row,.sl 1 ([nm].map Cr)] h (zp (AU [nm] (DB b.AI))) h:=f167 (DB b.AI) (Cw (ws:=[nm])) AH;have H:=hc.ix (n:=0) Ab (DB b.AI).node h;have C:b.IW.AW=b.AW:=by unfold BS.IW;split<;>rfl
 have l3:=w.l3;by_cases h1:AU [nm] (DB b.AI)=zb/\D8 (DB b.AI).node b.AW<0
 .let⟨u,M,N,hu⟩:=aBL (h:=h) w.o Ab;have D:Kd b.AI ((z9 b.AI:Int)-1)=b.IW.AI:=by
   unfold BS.IW;split;.unfold Kd;rw[AF Ab]
   .unfold Kd;congr 1;omega
  rw[D] at hu;have w1:=w.HY (u:=M);have d:=w1.H5 hu;have e:b.CI nm=b.IW:=by unfold BS.CI;rw[Af h1]
  have P:({b with AI:=b.IW.AI}:BS)=b.IW:=by unfold BS.IW;split<;>rfl
  rw[P] at d;rw[e];refine⟨_,u,c,G,?_,d,by rw[C];exact hc,w.C3.trans Bd⟩;rw[h1.1] at r2;rw[Ad,Ú];simp only[abS,ER,z,em,r2,l3,BN,H,h1.2,ld,N,w1.st (k:=2) (v0:=o) rfl (AX.cells hu)]
 have e:b.CI nm=BS.En 8 b nm:=by unfold BS.CI;rw[Ac h1]
 rw[e];have IJ:Ev cx 94 [Pt bi 0,zd nm] h λr h'=>r= zh []/\∃o' c' G',RX h' bi a o' c' t G' (BS.En 8 b nm)/\B4 (BS.En 8 b nm).AW c'/\Du h (Bu bi G) h' (Bu bi G'):=by
  unfold Ev;rw[Ú];have He:∀(Q:HC) (k:Dm->List Aa->IT),(∀x vs h1,(x= .exit 0\/x= .ret)->(∃o' c' G',RX h1 bi a o' c' t G' (BS.En 8 b nm)/\B4 (BS.En 8 b nm).AW c'/\Du h (Bu bi G) h1 (Bu bi G'))->W cx (k x vs) Q h1)->
    W cx (.loop 3 [I 1] (λŃ=> .op (.int .leq) [g Ń 0,I 8] λy=> .GJ y (.call 223 [Pt bi 0,zd nm] λv=> .op (.un .not) [v] λv20=> .GJ v20 (.ret .ret [g Ń 0]) (.op (.int .add) [g Ń 0,I 1] λs=> .ret .normal [s])) (.ret (.exit 0) [g Ń 0])) k) Q h:=by
   intro Q k hk;refine Bj (λn:Nat=>[I ((9 -n:Nat):Int)]) (λn h1=>n<=8/\∃A l p b1,RX h1 bi a A l t p b1/\B4 b1.AW l/\ET b1/\Nm b1.a/\B0 b1 (m+n*(4*(z9 b.AI+8)+10))/\z9 b1.AI<=z9 b.AI+(8 -n)/\BS.En 8 b nm=BS.En n b1 nm/\Du h (Bu bi G) h1 (Bu bi p)) (λn=>n) 8 rfl ⟨Ae _,o,c,G,b,w,hc,ok,hnm,rm,Ab,rfl,.refl⟩ ?_;rintro n h1 ⟨hn,A,l,p,b1,w1,Tg,Xl,nm1,aq,XF,i,q⟩;cases n with
   |zero=>simp only[abS,(Bf:¬((9 -0:Nat):Int)<=8)];exact hk _ _ _ (.inl rfl) ⟨A,l,p,by rw[i];exact w1,by rw[i];exact Tg,q⟩
   |succ n=>
    have hsp:(n+1)*(4*(z9 b.AI+8)+10)=n*(4*(z9 b.AI+8)+10)+(4*(z9 b.AI+8)+10):=by rw[B9,Gd]
    rw[hsp] at aq;have uf:B0 b1 (m+n*(4*(z9 b.AI+8)+10)+4*z9 b1.AI+10):=aq.le Ab;let⟨h2,J,K,L,j,d,JH,E⟩:=aLD w1 Tg Xl uf nm1 nm;let⟨Ww,eH⟩:=Pq uf nm;have õ:=(ZM (nm:=nm) Xl).1;have B:=Nm.round (nm:=nm) nm1 uf;have hlt:((9 -(n+1):Nat):Int)<=8:=Ab;have inc:AA (.int .add) [I ((9 -(n+1):Nat):Int),I 1]=zx (I ((9 -n:Nat):Int)):=by have:=Vg (n:=9 -(n+1)) Ab;rwa [(Ab:9 -(n+1)+1=9 -n)] at this
    have f:BS.En (n+1) b1 nm=if(b1.round nm).1 then BS.En n (b1.round nm).2 nm else(b1.round nm).2:=rfl
    cases hr:(b1.round nm).1 with
    |true=>rw[hr] at j f;simp only[abS,hlt,j,inc];exact z6 n rfl ⟨Ab,J,K,L,_,d,JH,õ,B,Ww,Ab,i.trans f,q.trans E⟩ Ab
    |false=>rw[hr] at j f;simp only[abS,hlt,j];exact hk _ _ _ (.inr rfl) ⟨J,K,L,by rw[i,f];exact d,by rw[i,f];exact JH,q.trans E⟩
  by_cases h2:AU [nm] (DB b.AI)=zb
  .have O:¬D8 (DB b.AI).node b.AW<0:=λh=>h1 ⟨h2,h⟩;rw[h2] at r2;simp only[abS,ER,z,em,r2,l3,BN,H,O];refine He _ _ ?_;rintro x vs h1 (rfl|rfl) ⟨o',c',G',a1,a2,a3⟩;.simp only[BD];exact⟨_,rfl,rfl,o',c',G',a1,a2,a3⟩
   .simp only[BD];exact⟨_,rfl,rfl,o',c',G',a1,a2,a3⟩
  .have h2:AU [nm] (DB b.AI)=zw:=by simpa using h2
   rw[h2] at r2;simp only[BD,z,em,r2];refine He _ _ ?_;rintro x vs h1 (rfl|rfl) ⟨o',c',G',a1,a2,a3⟩;.simp only[BD];exact⟨_,rfl,rfl,o',c',G',a1,a2,a3⟩
   .simp only[BD];exact⟨_,rfl,rfl,o',c',G',a1,a2,a3⟩
 obtain⟨r,h',hr,rfl,o',c',G',w',Jq,x'⟩:=IJ.ret;exact⟨h',o',c',G',hr,w',Jq,x'⟩
end
end
def ux{h:Ah}{fs:List Cp}{v:Aa}(hv:Dp fs v)(hne:fs≠[])(hl:z9 fs<=1000000000):Lj h 3 48 zq v=zx (h++[zs (fs.map z0).flatten],.CC (z9 h) 0 (z9 fs) 3):=by have hm:A0=140737488355328:=rfl;have:=LX (h:=h) (s:= zq) (z:=3) (b:=48) (.inl rfl) hv (zv hne) (by rw[Ao];omega);rwa [Ao] at this
def bg{h:Ah}{v:Aa}(hv:Dp [] v):Lj h 3 48 zq v=zx (h,zq):=QC (.inl rfl) hv
section
variable{h h':Ah}{bi a:Nat}{o c t:Aa}{G G' F:Nat->Prop}{b:BS}{x:Int}{m:Nat}
def aLJ(w:RX h bi a o c t G b)(rm:B0 b m)(e:Cp):BK cx 216 [Pt bi 0,zj e.row] h (zp (b.settled e.c)) h:=by
 have ho:=rm.AI;have ld:A5 h zf (Pt bi 2)=zx o:=w.ld 2;have d:=cR (h:=h) w.o Ab e.c.node;rw[BS.settled];rw[Ad,aAK,z0];by_cases h0:e.c.node=0;.simp only[BD,AE h0,ld,d,true_or,DO]
 .simp only[abS,h0,ld,d,false_or]
structure o9(h:Ah)(bi a:Nat)(t c:Aa)(G0:Nat->Prop)(b:BS)(fs:List Cp)(id m k:Nat)(h1:Ah):Prop where
 le:k<=z9 fs
 low:b.L0<=k
 ex:∃(o:Aa) (G:Nat->Prop) (b1:BS) (Iv:List Cp),RX h1 bi a o c t G b1/\ET b1/\Nm b1.a/\B0 b1 (m+4*(z9 fs-k))/\h1[id]?=zx (zs (Iv.map z0).flatten)/\z9 Iv=z9 fs/\Iv.drop k=fs.drop k/\
  BS.A6 b={(BS.Ih (b.AW.drop k) b1).2 with AW:=(Iv.take k).map (·.c)++(BS.Ih (b.AW.drop k) b1).1}/\¬Bu bi G id/\Du h (Bu bi G0) h1 (Bu bi G)
def o9.init(w:RX h bi a o c t G b)(ok:ET b)(hnm:Nm b.a)(rm:B0 b (m+4*z9 b.AW)){fs:List Cp}(Gp:fs.map (·.c)=b.AW):
  o9 h bi a t c G b fs (z9 h) m b.L0 (h++[zs (fs.map z0).flatten]):=by
 have HB:z9 b.AW=z9 fs:=by rw[<-Gp,Ao]
 have hk:=Um (b:=b);have hne:z9 h≠bi:=Nat.ne_of_gt w.lt;refine⟨Ab,Ae _,o,G,b,fs,w.HY (u:=[zs (fs.map z0).flatten]),ok,hnm,rm.le Ab,?_,rfl,rfl,?_,?_,w.C3⟩;.simp
 .unfold BS.A6;simp only;rw[FM,Gp]
 .rintro(rfl|hg);.exact hne rfl
  .cases (DF _) (w.w.lt hg)
def o9.step{fs:List Cp}{id k:Nat}{h1:Ah}(Gp:fs.map (·.c)=b.AW)(K6:∀e∈b.AW,z9 e.name<=1000/\DV e.Aj)(hi:z9 h<=id)(hlt:k<z9 fs)(i:o9 h bi a t c G b fs id m k h1):
  ∃(h2:Ah) (n:Int),A5 h1 zf (Pt id (k*3+1))=zx (zd fs[k].c.name)/\A5 h1 zf (Pt id (k*3+2))=zx fs[k].v/\BK cx 85 [Pt bi 0,zj [I 2,zd fs[k].c.name,ff,S [],ff,S [],ff,ff,fs[k].v,ff,S [],zm za 0]] h1 (I n) h2/\
   Cy h2 1 (Pt id (k*3)) (I n)=zx (Am.put h2 id (k*3) (I n))/\o9 h bi a t c G b fs id m (k+1) (Am.put h2 id (k*3) (I n)):=by
 let⟨w,y,b1,Iv,w1,Xl,nm1,aq,Tg,XF,jJ,vW,ND,f⟩:=i.ex;have S6:k<z9 Iv:=Ab;have HB:z9 b.AW=z9 fs:=by rw[<-Gp,Ao]
 have þ:k<z9 b.AW:=Ab;have q:Iv[k]=fs[k]:=by have:=Cj (λl=>l[0]?) jJ;simp[Cu,Bw] at this;rw[An S6,An hlt] at this;exact EA this
 have p:b.AW[k]=fs[k].c:=by simp[<-Gp,CR]
 have hg:(Iv.map z0)[k]?=zx fs[k].row:=by rw[Cc,An S6,q];rfl
 have ld:∀j,j<3->A5 h1 zf (Pt id (k*3+j))=fs[k].row[j]?:=λj hj=>by simp[A5,Tg,Fu];exact L2 (Pe Iv) hj hg
 have K6:=K6 fs[k].c (by rw[<-p];exact AN þ);have hr:OG fs[k].c.name fs[k].v [I 2,zd fs[k].c.name,ff,S [],ff,S [],ff,ff,fs[k].v,ff,S [],zm za 0]:=⟨I 2,ff,S [],ff,S [],ff,ff,ff,S [],zm za 0,rfl⟩;let⟨h2,u,r,r2,s,d⟩:=um (m:=m+4*(z9 fs-(k+1))) w1 Xl.ba (aq.le Ab) nm1 hr fs[k].ok K6.2 K6.1;have py:id<z9 h1:=(Aq.1 Tg).1;have JH:h2[id]?=zx (zs (Iv.map z0).flatten):=by rwa[d.old id py ND]
 have Tf:¬Bu bi r id:=λhg=>by
  obtain hg|hg:=d.Bu id hg
  .exact ND hg
  .omega
 have g:At h2 id (k*3) (I fs[k].c.node):=⟨_,JH,by have:=L2 (k:=0) (Pe Iv) Bf hg;rw[Bw] at this;rw[this];rfl⟩
 let e':Cp:=⟨{fs[k].c with node:=b1.a.len+1},fs[k].v,fs[k].ok⟩
 have hrow:(Iv.map z0).flatten.set (k*3) (I (b1.a.len+1))=((Iv.set k e').map z0).flatten:=by have:=OF (AD:=Iv.map z0) (i:=k) (k:=0) (v:= I (b1.a.len+1)) (Pe Iv) (zv S6) Bf;rw[Bw] at this;rw[EI,B1,Af (by rw[Gq (Pe Iv),Ao];omega)];rw[AK] at this;rwa[show e'.row=((Iv.map z0)[k]'(zv S6)).set 0 (I (b1.a.len+1)) by rw[CR,q];rfl]
 refine⟨h2,b1.a.len+1,ld 1 Bf,ld 2 Bf,r2,g.store rfl,⟨hlt,by have:=i.low;omega,u,r,_,Iv.set k e',s.Dj λj hj=>Ce λe=>Tf (e▸hj),QQ Xl,nm1.L9 K6.1,JY (m:=m+4*(z9 fs-(k+1))) (aq.le Ab) K6.2 K6.1,?_,by rwa[Br],?_,?_,Tf,⟨by rw[Jw];exact(f.trans d).len,λj hj hn=>(Ce Ab).trans ((f.trans d).old j hj hn),(f.trans d).Bu⟩⟩⟩;.rw[IM JH,AY (by have:=d.len;omega),hrow]
 .rw[cX (N9 k)];have:=Cj (λl=>l.drop 1) jJ;simpa[Fi] using this
 .rw[vW,AG þ,p,BS.Ih];simp only
  congr 1
  rw[AB (by rwa[Br]),aH3,BL,PQ (Ae k),AK];rfl
def aLK(w:RX h bi a o c t G b)(hc:B4 b.AW c)(ok:ET b)(rm:B0 b (m+4*z9 b.AW))(hnm:Nm b.a):
  ∃h' o' c' G',BK cx 92 [Pt bi 0] h (zh []) h'/\RX h' bi a o' c' t G' b.A6/\B4 b.A6.AW c'/\Du h (Bu bi G) h' (Bu bi G'):=by
 have ho:=rm.AI;have Sk:=rm.AW;let⟨fs,Gp,hcs⟩:=hc;have HB:z9 b.AW=z9 fs:=by rw[<-Gp,Ao]
 have IJ:Ev cx 92 [Pt bi 0] h λr h'=>r= zh []/\∃o' c' G',RX h' bi a o' c' t G' b.A6/\B4 b.A6.AW c'/\Du h (Bu bi G) h' (Bu bi G'):=by
  unfold Ev;have l3:=w.l3;have lc:=AX.CK hcs;simp only[aFT,BD,l3,lc];refine Dr (i:=0) (λn:Nat=>[I (n:Int)]) (λn h1=>n<=z9 fs/\AZ b.settled b.AW=AZ b.settled (b.AW.take n)/\h1=h) (λn=>n) (λn h1=>n=b.L0/\h1=h) (z9 fs) rfl ⟨Ae _,by rw[<-HB,Bt],rfl⟩ ?_ ?_
  .rintro n h1 ⟨hn,ha,rfl⟩;cases n with
   |zero=>simp[abS,(Bf:¬(0:Int)<((0:Nat):Int))];refine .He 0 rfl ⟨?_,rfl⟩;unfold BS.L0;rw[ha];rfl
   |succ n=>
    have hlt:n<z9 b.AW:=Ab;have Ug:n<z9 fs:=Ab;rw[Ht hlt] at ha;have i1:=IK (n:=n+1) (Ab:0<n+1) (Ab:n+1<9223372036854775807);rw[Fy] at i1;have d:=AX.BG (k:= z5) hcs Ug;have en:fs[n].c=b.AW[n]:=by simp[<-Gp,CR]
    have z:=aLJ w rm fs[n];rw[en] at z;have pV:fs[n].row.length=3:=rfl;have q:fs[n].row.take 3=fs[n].row:=rfl;simp only[abS,↓reduceIte,(Ab:(0:Int)<((n+1:Nat):Int)),l3,i1,d,pV,q,Ae,z];cases hs:b.settled b.AW[n] with
    |true=>rw[hs,Af rfl] at ha;simp only[abS];exact .He (n+1) rfl ⟨by unfold BS.L0;rw[ha];omega,rfl⟩
    |false=>rw[hs,Ac Bf] at ha;simp only[abS];exact .next n rfl ⟨Ab,ha,rfl⟩ Ab
  .rintro n h1 ⟨rfl,M⟩;rw[M];by_cases hne:fs=[]
   .subst hne;have ha:b.AW=[]:=Gp.symm;have L:b.L0=0:=by have:=Um (b:=b);rw[ha] at this;exact Nat.le_zero.1 this
    have hb:b.A6=b:=by unfold BS.A6;simp only[ha,aCN,BS.Ih,aCO,BY];rw[<-ha]
    have g0:=bg (h:=h) hcs;have f:=w.st (k:=3) (v:= zq) (v0:=c) rfl rfl;have w1:RX (put h bi 3 zq) bi a o zq t G b:=w.KC (l:=b.AW);have d:=QS w1.tQ (ly (l:=[]) (.inr ⟨rfl,rfl⟩)) rfl;have hz:(b.L0:Int)=((0:Nat):Int):=by rw[L]
    simp only[BD,↓reduceIte,l3,g0];refine Dr (i:=2) (λn:Nat=>[I (n:Int)]) (λn h1=>n=0/\h1=h) (λn=>n) (λn h1=>n=0/\h1=h) 0 (by rw[hz]) ⟨rfl,rfl⟩ ?_ ?_;.rintro n h1 ⟨rfl,rfl⟩;simp only[BD,Nat.reduceLeDiff,↓reduceIte,AQ,Wn,show AA (.len false) [.slnil]=some (I 0) from rfl,(Bf:¬((0:Nat):Int)<0)];exact .He 0 rfl ⟨rfl,rfl⟩
    .rintro n h1 ⟨rfl,rfl⟩;simp only[BD,↓reduceIte,f,d];refine⟨_,rfl,rfl,o,zq,G,?_,⟨[],by rw[hb,ha];rfl,.inr ⟨rfl,rfl⟩⟩,Bd.trans Bd⟩;rw[hb];exact w1.KC (l:=b.AW)
   .have i0:=o9.init (m:=m) w ok hnm rm Gp;have g1:=ux (h:=h) hcs hne Ab;have B:AA (yz zw) [.CC (z9 h) 0 (z9 fs) 3]=zx (I (z9 fs:Int)):=rfl;simp only[BD,↓reduceIte,l3,g1];refine Dr (i:=2) (λn:Nat=>[I (n:Int)]) (λk h1=>o9 h bi a t c G b fs (z9 h) m k h1) (λk=>z9 fs-k) (λk h1=>k=z9 fs/\o9 h bi a t c G b fs (z9 h) m k h1) b.L0 rfl i0 ?_ ?_
    .intro k h1 i;have EH:=i.le;obtain hlt|Et:=AP k fs.length
     .let⟨h2,n,f,K,J,H,E⟩:=o9.step Gp rm.DL (Ae _) hlt i;have d:AA (.EE 3) [.CC (z9 h) 0 (z9 fs) 3,I (k:Int)]=zx (Pt (z9 h) (k*3)):=Fk hlt;have ax:fs[k].v.cells=[fs[k].v]:=zn fs[k].ok;simp only[abS,Nat.reduceLeDiff,↓reduceIte,AQ,B,(Ab:(k:Int)<(fs.length:Int)),d,f,K,ax,J,H,By k];exact .next (k+1) rfl E Ab
     .simp only[abS,zy,↓reduceIte,AQ,B,(Ab:¬(k:Int)<(z9 fs:Int))];exact .He k rfl ⟨Ab,i⟩
    .rintro k h1 ⟨rfl,i⟩;let⟨A,s,b1,Iv,w1,Xl,nm1,aq,Tg,XF,jJ,vW,ND,C⟩:=i.ex;have g:z9 h≠bi:=λe=>ND (.inl e);have f:=w1.st (k:=3) (v:= .CC (z9 h) 0 (z9 fs) 3) (v0:=c) rfl rfl;have y:=w1.KC (u:= .CC (z9 h) 0 (z9 fs) 3) (l:=b1.AW);have JH:(put h1 bi 3 (.CC (z9 h) 0 (z9 fs) 3))[z9 h]?=_:=(Ce g).trans Tg;have hf:=Kr (Pe Iv) JH;rw[Ao,XF] at hf;have d:=QS y.tQ hf (by rw[Au g]);have D:RX ((put h1 bi 3 (.CC (z9 h) 0 (z9 fs) 3)).set (z9 h) .CU) bi a A _ t s {b1 with AW:=b1.AW}:=y.Dj λj hj=>Au λe=>ND (by rw[e];exact hj);simp only[BD,↓reduceIte,f,d];have hb:b.A6={b1 with AW:=Iv.map (·.c)}:=by rw[vW,AT Ab,AF Ab];simp only[BS.Ih,BB]
     refine⟨_,rfl,rfl,A,_,s,by rw[hb];exact D.KC,⟨Iv,by rw[hb],.mk⟩,?_⟩;have p:=C.trans (Bd (bi:=bi) (G:=s) (k:=3) (v:= .CC (z9 h) 0 (z9 fs) 3));refine Du.trans ⟨by rw[Br];exact p.len,λj hj hn=>?_,p.Bu⟩ Bd;rw[Au Ab];exact p.old j hj hn
 obtain⟨r,h',hr,rfl,o',c',G',w',Jq,x'⟩:=IJ.ret;exact⟨h',o',c',G',hr,w',Jq,x'⟩
end
section
variable{h h':Ah}{bi a:Nat}{o c t:Aa}{G G' F:Nat->Prop}{b:BS}{x:Int}{m j:Nat}{q:uF}
variable{nm:Ai}{av:Aa}{l:List A9}{r:List Aa}{sp p:Int}
def aQt(w:RX h bi a o c t G b)(hc:B4 b.AW c)(ok:ET b)(sz:Sz b (j+1))(hnm:Nm b.a)(hq:ug q)(hv:AL q.Aj av):
  ∃h' o' c' t' G',BK cx 24 [Pt bi 0,zj (Mk q av)] h (zj (aG b q).2.row) h'/\RX h' bi a o' c' t' G' (aG b q).1/\B4 (aG b q).1.AW c'/\Du h (Bu bi G) h' (Bu bi G'):=by
 unfold aG Mk;by_cases d:q.k=1;.rw[Af d];dsimp only;obtain⟨r,fR,D,hr,DR⟩:=Xp (q:=q) hv hq.Aj.1 h;rw[Mk] at D;obtain⟨h',o',G',r2,w',x'⟩:=um (m:=5000000*j) w ok sz.aJ hnm hr DR hq.Aj hq.name;refine⟨h',o',c,t,G',?_,w',by rw[Er];exact hc,x'⟩;rw[Ad,Gj];simp only[abS,Nat.reduceLeDiff,↓reduceIte,AQ,AE d,D,r2];try rfl
 rw[Ac d];by_cases f:q.k=2;.rw[Af f];dsimp only;obtain⟨r,fR,D,hr,DR⟩:=Xp (q:=q) hv hq.Aj.1 h;rw[Mk] at D;obtain⟨h',o',G',r2,w',x'⟩:=aGT (m:=5000000*j) w ok sz.aJ hnm hr DR hq.Aj hq.name q.A7;refine⟨h',o',c,t,G',?_,w',by rw[Er];exact hc,x'⟩;rw[Ad,Gj];simp only[abS,Nat.reduceLeDiff,↓reduceIte,AQ,d,AE f,D,r2];try rfl
 rw[Ac f];by_cases g:q.k=3;.rw[Af g];dsimp only;obtain⟨r,fR,D,hr,DR⟩:=Xp (q:=q) hv hq.Aj.1 h;rw[Mk] at D;obtain⟨h',o',c',G',r2,w',Jq,x'⟩:=aLx (m:=5000000*j) w hc ok sz.aJ hnm hr DR hq.Aj hq.name;refine⟨h',o',c',t,G',?_,w',Jq,x'⟩;rw[Ad,Gj];simp only[abS,Nat.reduceLeDiff,↓reduceIte,AQ,d,f,AE g,D,r2];try rfl
 rw[Ac g];by_cases i:q.k=4;.rw[Af i];dsimp only;obtain⟨h',G',r2,w',x'⟩:=aQo (m:=5000000*j) w ok sz.aJ hnm q.r;refine⟨h',o,c,t,G',?_,w',hc,x'⟩;rw[Ad,Gj];simp only[abS,↓reduceIte,AQ,d,f,g,AE i,r2];try rfl
 rw[Ac i];by_cases y:q.k=5;.rw[Af y];dsimp only;obtain⟨h',G',r2,w',x'⟩:=aQp (m:=5000000*j) w ok sz.aJ hnm q.s (by have:=hq.s;omega) q.a;refine⟨h',o,c,t,G',?_,w',hc,x'⟩;rw[Ad,Gj];simp only[abS,↓reduceIte,AQ,d,f,g,i,AE y,r2];try rfl
 rw[Ac y];by_cases z:q.k=6;.rw[Af z];dsimp only;obtain⟨r,fR,D,hr,DR⟩:=Xp (q:=q) hv hq.Aj.1 h;rw[Mk] at D;obtain⟨h',o',G',r2,w',x'⟩:=aLv (m:=5000000*j) w ok sz.aJ hnm hr DR hq.Aj hq.name q.n;refine⟨h',o',c,t,G',?_,w',by show B4 (b.D9 q.name q.Aj 1).AW c;rw[Er];exact hc,x'⟩;rw[Ad,Gj];simp only[abS,↓reduceIte,AQ,d,f,g,i,y,AE z,D,r2];try rfl
 rw[Ac z];by_cases A:q.k=7;.rw[Af A];dsimp only;obtain⟨h',o',r2,w',x'⟩:=aLu w sz.rm;refine⟨h',o',c,t,G,?_,w',by have e:b.BH.AW=b.AW:=(by unfold BS.BH;split<;>rfl);rw[e];exact hc,x'⟩;rw[Ad,Gj];simp only[abS,↓reduceIte,AQ,d,f,g,i,y,z,AE A,r2];try rfl
 rw[Ac A];by_cases B:q.k=8;.rw[Af B];dsimp only;obtain⟨h',o',c',G',r2,w',Jq,x'⟩:=aLK (m:=5000000*j) w hc ok (sz.rm.le (by have:=sz.AW;omega)) hnm;refine⟨h',o',c',t,G',?_,w',Jq,x'⟩;rw[Ad,Gj];simp only[abS,↓reduceIte,AQ,d,f,g,i,y,z,A,AE B,r2];try rfl
 rw[Ac B];by_cases C:q.k=9;.rw[Af C];dsimp only;obtain⟨h',o',r2,w',x'⟩:=aLw w sz.rm q.name;refine⟨h',o',c,t,G,?_,w',by have e:(b.Dz q.name).AW=b.AW:=(by unfold BS.Dz;split;split<;>rfl;rfl);rw[e];exact hc,x'⟩;rw[Ad,Gj];simp only[abS,↓reduceIte,AQ,d,f,g,i,y,z,A,B,AE C,r2];try rfl
 rw[Ac C];by_cases KT:q.k=10;.rw[Af KT];dsimp only;obtain⟨h',o',c',G',r2,w',Jq,x'⟩:=aLI (m:=5000000*j) w hc ok (sz.rm.le (by have:=sz.AI;omega)) hnm q.name;refine⟨h',o',c',t,G',?_,w',Jq,x'⟩;rw[Ad,Gj];simp only[abS,↓reduceIte,AQ,d,f,g,i,y,z,A,B,C,AE KT,r2];try rfl
 rw[Ac KT];by_cases Lf:q.k=11;.rw[Af Lf];dsimp only;obtain⟨h',r2,w',x'⟩:=aCm w sz.rm;refine⟨h',o,c,t,G,?_,w',hc,x'⟩;rw[Ad,Gj];simp only[abS,↓reduceIte,AQ,d,f,g,i,y,z,A,B,C,KT,AE Lf,r2];try rfl
 rw[Ac Lf];by_cases L5:q.k=12;.rw[Af L5];dsimp only;obtain⟨r,fR,D,hr,DR⟩:=Xp (q:=q) hv hq.Aj.1 h;rw[Mk] at D;obtain⟨h',G',r2,w',x'⟩:=aLt (m:=5000000*j) w ok sz.aJ hr DR hq.Aj q.a;refine⟨h',o,c,t,G',?_,w',by have e:(b.EG q.Aj q.a).AW=b.AW:=(by unfold BS.EG;split<;>rfl);rw[e];exact hc,x'⟩;rw[Ad,Gj];simp only[abS,↓reduceIte,AQ,d,f,g,i,y,z,A,B,C,KT,Lf,AE L5,D,r2];try rfl
 rw[Ac L5];by_cases Mq:q.k=13;.rw[Af Mq];dsimp only;obtain⟨h',o',c',t',r2,w',Jq,x'⟩:=aQs w hc sz.rm;refine⟨h',o',c',t',G,?_,w',Jq,x'⟩;rw[Ad,Gj];simp only[abS,↓reduceIte,AQ,d,f,g,i,y,z,A,B,C,KT,Lf,L5,AE Mq,r2];try rfl
 rw[Ac Mq];by_cases Nb:q.k=14;.rw[Af Nb];dsimp only;obtain⟨h',r2,w',x'⟩:=aQm w;refine⟨h',o,c,t,G,?_,w',hc,x'⟩;rw[Ad,Gj];simp only[abS,↓reduceIte,AQ,d,f,g,i,y,z,A,B,C,KT,Lf,L5,Mq,AE Nb,r2];try rfl
 rw[Ac Nb];by_cases OJ:q.k=15;.rw[Af OJ];dsimp only;have w':RX (put h bi 15 (zp q.b)) bi a o c t G {b with Fe:=q.b}:=w.put rfl rfl w.o w.t;refine⟨put h bi 15 (zp q.b),o,c,t,G,?_,w',hc,Bd⟩;rw[Ad,Gj];simp only[abS,↓reduceIte,AQ,d,f,g,i,y,z,A,B,C,KT,Lf,L5,Mq,Nb,AE OJ,w.st (k:=15) (v:= .bool q.b) rfl rfl];try rfl
 rw[Ac OJ];by_cases PO:q.k=16;.rw[Af PO];dsimp only;have L:=sz.rm.tm;have cF:A0=140737488355328:=rfl;obtain⟨u,N,hu⟩:=AX.Gg (b:=8) w.t Ab;have M:=AX.JU (b:=8) (a:=q.n) hu Ab;have em:AA (.Dk 1) [I q.n]=zx (.sl 1 [Cb q.n]):=rfl;have Ja:Ec (b.tm++[q.n]) (.sl 1 ((b.tm++[q.n]).map Cb)):= .mk;have w':=w.oS Ja;refine⟨put h bi 6 (.sl 1 ((b.tm++[q.n]).map Cb)),o,c,_,G,?_,w',hc,Bd⟩;rw[Ad,Gj];simp only[abS,↓reduceIte,AQ,d,f,g,i,y,z,A,B,C,KT,Lf,L5,Mq,Nb,OJ,AE PO,w.l6,N,em,M,w.st (k:=6) (v0:=t) rfl (AX.cells Ja)];try rfl
 rw[Ac PO];by_cases QU:q.k=17
 .rw[Af QU];dsimp only;have Sk:=sz.rm.AW;obtain⟨u,r2,Jq,J⟩:=hc.wi Ab (e:=z4) (v:= zq) (.inr ⟨rfl,rfl⟩) Bf (z9 b.AW:Int) h;rw[WB (Ae _),Bt,EJ] at Jq;have w':=w.KC (u:=u) (l:=b.AW++[z4]);have lc:AA (yz zw) [c]=zx (I (z9 b.AW:Int)):=by obtain⟨fs,Gp,SI⟩:=hc;rw[AX.CK SI,<-Gp,Ao]
  have H:BK cx 99 [c,zj [I 0,S [],zq],I (z9 b.AW:Int)] h u h:=r2;refine⟨put h bi 3 u,o,u,t,G,?_,w',Jq,Bd⟩;rw[Ad,Gj];simp only[abS,↓reduceIte,AQ,d,f,g,i,y,z,A,B,C,KT,Lf,L5,Mq,Nb,OJ,PO,AE QU,w.l3,lc,H,w.st (k:=3) (v0:=c) rfl J];try rfl
 rw[Ac QU];by_cases Sq:q.k=18;.rw[Af Sq];dsimp only;obtain⟨h',o',r2,w',x'⟩:=aQn w sz.rm;refine⟨h',o',c,t,G,?_,w',by have e:b.IW.AW=b.AW:=(by unfold BS.IW;split<;>rfl);rw[e];exact hc,x'⟩;rw[Ad,Gj];simp only[abS,↓reduceIte,AQ,ER,d,f,g,i,y,z,A,B,C,KT,Lf,L5,Mq,Nb,OJ,PO,QU,AE Sq,r2];try rfl
 rw[Ac Sq];by_cases Ur:q.k=19;.rw[Af Ur];dsimp only;have w':RX (put h bi 7 (I q.a)) bi a o c t G {b with head:=q.a}:=w.put rfl rfl w.o w.t;refine⟨put h bi 7 (I q.a),o,c,t,G,?_,w',hc,Bd⟩;rw[Ad,Gj];simp only[abS,↓reduceIte,AQ,d,f,g,i,y,z,A,B,C,KT,Lf,L5,Mq,Nb,OJ,PO,QU,Sq,AE Ur,w.st (k:=7) (v:= I q.a) rfl rfl];try rfl
 rw[Ac Ur];by_cases Wz:q.k=20;.rw[Af Wz];dsimp only;have w':=w.tV q.n;refine⟨put h bi 4 (I q.n),o,c,t,G,?_,w',hc,Bd⟩;rw[Ad,Gj];simp only[abS,↓reduceIte,AQ,d,f,g,i,y,z,A,B,C,KT,Lf,L5,Mq,Nb,OJ,PO,QU,Sq,Ur,AE Wz,w.st (k:=4) (v:= I q.n) rfl rfl];try rfl
 rw[Ac Wz];by_cases oX:q.k=21;.rw[Af oX];dsimp only;have Sk:=sz.rm.AW;obtain⟨fs,Gp,SI⟩:=hc;obtain⟨u,r2,hu⟩:=f84 (h:=h) SI (by rw[<-Gp,Ao] at Sk;omega);have w':=w.KC (u:=u) (l:=GB b.AW);have Jq:B4 (GB b.AW) u:=⟨_,by rw[Ye,Gp],hu⟩;refine⟨put h bi 3 u,o,u,t,G,?_,w',Jq,Bd⟩;rw[Ad,Gj];simp only[abS,↓reduceIte,AQ,d,f,g,i,y,z,A,B,C,KT,Lf,L5,Mq,Nb,OJ,PO,QU,Sq,Ur,Wz,AE oX,w.l3,r2,w.st (k:=3) (v0:=c) rfl (AX.cells hu)];try rfl
 rw[Ac oX];by_cases ui:q.k=22;.rw[Af ui];dsimp only;have ho:=sz.rm.AI;have ld:A5 h zf (Pt bi 2)=zx o:=w.ld 2;have em:AA (.Dk 1) [zd q.name]=zx (.sl 1 ([q.name].map Cr)):=D2 (ws:=[q.name]) rfl AH;obtain⟨u,K,r2,hu⟩:=f85 (h:=h) w.o Ab (Cw (ws:=[q.name])) AH;rw[<-M3] at hu;have w1:=w.HY (u:=K);have w':=w1.H5 hu;refine⟨put (h++K) bi 2 u,u,c,t,G,?_,w',hc,w.C3.trans Bd⟩;rw[Ad,Gj];simp only[abS,↓reduceIte,AQ,d,f,g,i,y,z,A,B,C,KT,Lf,L5,Mq,Nb,OJ,PO,QU,Sq,Ur,Wz,oX,AE ui,ld,em,r2,w1.st (k:=2) (v0:=o) rfl (AX.cells hu)];try rfl
 rw[Ac ui];by_cases ā:q.k=23;.rw[Af ā];dsimp only;have w':RX (put h bi 8 (I q.a)) bi a o c t G {b with KP:=q.a}:=w.put rfl rfl w.o w.t;refine⟨put h bi 8 (I q.a),o,c,t,G,?_,w',hc,Bd⟩;rw[Ad,Gj];simp only[abS,↓reduceIte,AQ,d,f,g,i,y,z,A,B,C,KT,Lf,L5,Mq,Nb,OJ,PO,QU,Sq,Ur,Wz,oX,ui,AE ā,w.st (k:=8) (v:= I q.a) rfl rfl];try rfl
 rw[Ac ā];by_cases E:q.k=24;.rw[Af E];dsimp only;obtain⟨r,fR,D,hr,DR⟩:=Xp (q:=q) hv hq.Aj.1 h;rw[Mk] at D;obtain⟨h',G',r2,w',x'⟩:=aCh (m:=5000000*j) w ok sz.aJ hnm hr DR hq.Aj hq.name q.a q.A7;refine⟨h',o,c,t,G',?_,w',by have e:(b.Ex q.name q.Aj q.A7 q.a).AW=b.AW:=(by unfold BS.Ex;split<;>rfl);rw[e];exact hc,x'⟩;rw[Ad,Gj];simp only[abS,↓reduceIte,AQ,ER,d,f,g,i,y,z,A,B,C,KT,Lf,L5,Mq,Nb,OJ,PO,QU,Sq,Ur,Wz,oX,ui,ā,AE E,D,r2];try rfl
 rw[Ac E];refine⟨h,o,c,t,G,?_,w,hc,.refl⟩;rw[Ad,Gj];simp only[abS,↓reduceIte,AQ,d,f,g,i,y,z,A,B,C,KT,Lf,L5,Mq,Nb,OJ,PO,QU,Sq,Ur,Wz,oX,ui,ā,E];try rfl
end
section
variable{h h':Ah}{bi a:Nat}{o c t:Aa}{G G' F:Nat->Prop}{b:BS}{x:Int}{m j:Nat}{q:uF}
variable{nm:Ai}{av:Aa}{l:List A9}{r:List Aa}{sp p:Int}
def bh(h:Ah):XD h []=zx (h++[.CU,zs RN.z.row,zs [I 0],zs [.CC (z9 h+1) 0 1 13,.CC (z9 h+2) 0 1 1]],z8 (zx (z9 h+3,0))):=by rw[XD];simp[AK,CQ,BY];rfl
def aQu(h:Ah):BK cx 60 [] h (z8 (zx (z9 h+3,0))) (h++[.CU,zs RN.z.row,zs [I 0],zs [.CC (z9 h+1) 0 1 13,.CC (z9 h+2) 0 1 1]]):=by have d:EF (.Sx XD) h []=zx (h++[.CU,zs RN.z.row,zs [I 0],zs [.CC (z9 h+1) 0 1 13,.CC (z9 h+2) 0 1 1]],z8 (zx (z9 h+3,0))):=bh h;simp[Ad,show B8 cx 60 []=XE [] from rfl,XE,BD,d]
def aCn(h:Ah):RA (h++[.CU,zs RN.z.row,zs [I 0],zs [.CC (z9 h+1) 0 1 13,.CC (z9 h+2) 0 1 1]]) (z9 h+3) (z9 h+1) (z9 h+2) [] ⟨[],[]⟩:=by
 refine⟨rfl,rfl,?_,?_,?_,Ab,Ab,Ab⟩;.rw[Bz Ab,(Ab:z9 h+3 -z9 h=3)];rfl
 .rw[Bz Ab,(Ab:z9 h+1 -z9 h=1)];rfl
 .rw[Bz Ab,(Ab:z9 h+2 -z9 h=2)];rfl
def aLL(h:Ah)(q:Bool):∃h1 h2 h' a bi G,BK cx 60 [] h (Pt a 0) h1/\BK cx 61 [Pt a 0,zp q] h1 (I 1) h2/\BK cx 63 [Pt a 0,I 1] h2 (Pt bi 0) h'/\RX h' bi a zq zq zq G (DJ q)/\Du h (λ_=>False) h' (Bu bi G):=by
 let⟨h2,f,g,ae,r2,d,e⟩:=aLk (aCn h) (by show(0:Int)<=1000000000;decide) q;have d:RA h2 (z9 h+3) f g ae (wg q):=d;have hx:(wg q).has 1:=⟨IA 1,IA 1⟩;have hk:((wg q).nd 1).kind=1:=by rw[show(wg q).nd 1=(DJ q).a.nd 1 from rfl,Ps,Af rfl]
 have i:=mh d hx hk;have EH:z9 h+4<=z9 h2:=by have:=e.len;exact zv this
 refine⟨_,h2,h2++[zs (JP (z9 h+3) (DJ q) zq zq zq)],z9 h+3,z9 h2,JZ (z9 h+3) f g,aQu h,r2,?_,⟨AH,.inr ⟨rfl,rfl⟩,.inr ⟨rfl,rfl⟩,⟨f,g,ae,d.Dj λj hj=>Ak (d.lt hj),rfl⟩,λhj=>absurd (d.lt hj) (DF _)⟩,⟨?_,λj hj _=>?_,λj hj=> .inr ?_⟩⟩;.rw[Ad,aFN];simp[abS,AQ,i,B3];rfl
 .simp;omega
 .rw[Ak Ab,e.old j EP (by rw[JZ];omega),Ak hj]
 .rcases hj with rfl|hj
  .omega
  .rcases e.Bu j hj with hj|hj
   .unfold JZ at hj;omega
   .simp at hj;omega
def RX.ă(w:RX h bi a o c t G b)(i:Item):∃h',Cy h 4 (Pt bi 10) (zj i.row)=zx h'/\RX h' bi a o c t G {b with ctx:=i}/\Du h (Bu bi G) h' (Bu bi G):=by refine⟨h.set bi (zs (JP a {b with ctx:=i} o c t)),?_,⟨AY w.lt,w.o,w.t,w.w.Dj λj hj=>Au λe=>w.nb (by rwa[e]),w.nb⟩,⟨by rw[Br];exact Ae _,λj _ hn=>Au λe=>hn (.inl e.symm),λ_ h=> .inl h⟩⟩;simp only[Cy,w.hb];rfl
def aQv(h:Ah)(sp:Int)(nm:Ai)(hv:AL l av)(hl:DV l)(hn:nm.length<=1000)(q f q':Bool):∃h1 h2 h' a bi o t G,BK cx 60 [] h (Pt a 0) h1/\BK cx 61 [Pt a 0,.bool q] h1 (I 1) h2/\BK cx 62 [Pt a 0,I 1,.agg [I sp,.str nm,av,.bool q',.bool f]] h2 (Pt bi 0) h'/\RX h' bi a o .slnil t G (VG sp nm l q f)/\Du h (λ_=>False) h' (Bu bi G):=by
 obtain⟨h1,h2,h3,a,bi,G,r1,r2,H,w,x⟩:=aLL h q;have ok0:=Pr q;have PY:(DJ q).a.has 1:=⟨IA 1,IA 1⟩;have bQ:((DJ q).a.nd 1).kind=1:=by rw[Ps,Af rfl]
 have U:(DJ q).Jd 1=1:=by unfold BS.Jd;rw[Ps,Af rfl];rfl
 have qt:(DJ q).Ex DQ [] 1 1={DJ q with a:=(DJ q).a.elem 1 1 DQ []}:=by unfold BS.Ex;rw[Af Kn,U];rfl
 have K:(DJ q).Hb DQ [] 1=⟨2,1,DQ,zw⟩:=by unfold BS.Hb;rw[Af Kn];rfl
 obtain⟨h4,G4,E,w4,x4⟩:=w.step (A':=(DJ q).a.elem 1 1 DQ []) (R:=λh'=>BK cx 164 [Pt a 0,I 1,I 1,.str DQ,.slnil] h3 (.tuple [I ((DJ q).a.len+1),I 0]) h') (λn i ps wa=>aD1 (l:=[]) wa (by show(1:Int)+3<=1000000000;decide) PY bQ Kn (.inr ⟨rfl,rfl⟩) Bf (λy hy=>(nomatch hy)));rw[<-qt] at w4;obtain⟨wc,f4,le4⟩:=QP (nm:=DQ) (at_:=[]) (p:=1) (Pr q) Kn;have T:=JB (m:=1000) (nm:=DQ) (l:=[]) (sp:=1) (p:=1) ((Pu q).rm.le Ab) ⟨Bf,λa ha=>(nomatch ha)⟩;obtain⟨M,g,B,w5,x5⟩:=ml w4 wc.ba T 1 ((DJ q).Hb DQ [] 1).node 0;have ho:((DJ q).Ex DQ [] 1 1).AI=[]:=by rw[qt];rfl
 have J:BZ (((DJ q).Ex DQ [] 1 1).AI++[(DJ q).Hb DQ [] 1]) (.sl 4 [((DJ q).Hb DQ [] 1).row]):=by rw[ho];exact .mk
 have z:=w5.st (k:=2) (v:= .sl 4 [((DJ q).Hb DQ [] 1).row]) (v0:= .slnil) rfl rfl;have P:=w5.H5 J;have u:Cy (put M bi 2 (.sl 4 [((DJ q).Hb DQ [] 1).row])) 1 (Pt bi 9) tt=zx (put (put M bi 2 (.sl 4 [((DJ q).Hb DQ [] 1).row])) bi 9 tt):=P.st (k:=9) (v:=tt) (v0:= .bool ((DJ q).Ex DQ [] 1 1).Mz) rfl rfl;have w7:RX (put (put M bi 2 (.sl 4 [((DJ q).Hb DQ [] 1).row])) bi 9 tt) bi a _ .slnil .slnil g _:=P.put (k:=9) (v:=tt) (b':={{{(DJ q).Ex DQ [] 1 1 with a:=((DJ q).Ex DQ [] 1 1).a.ES ((DJ q).Hb DQ [] 1).node 1 0} with AI:=((DJ q).Ex DQ [] 1 1).AI++[(DJ q).Hb DQ [] 1]} with Mz:=zb}) rfl rfl J P.t;have Y:Du h (λ_=>False) (put (put M bi 2 (.sl 4 [((DJ q).Hb DQ [] 1).row])) bi 9 tt) (Bu bi g):=((((x.trans x4).trans x5).trans Bd).trans Bd);have aC:((DJ q).Hb DQ [] 1).node=(DJ q).a.len+1:=by rw[K];rfl
 rw[aC] at B;have aLM:((DJ q).Hb DQ [] 1).row=[I ((DJ q).a.len+1),I 1,S DQ,ff]:=by rw[K];rfl
 rw[aLM] at z u w7 Y;generalize put M bi 2 (.sl 4 [[I ((DJ q).a.len+1),I 1,S DQ,ff]])=h6 at*;generalize put h6 bi 9 tt=h7 at*;have D:=aJy (h:=h7) hv (λa ha=>by have:=(hl.2 a ha).2;have:A0=140737488355328:=rfl;omega) (by have:=hl.1;omega) sp nm Ab;obtain⟨C,s8,Z,x8⟩:=w7.ă ⟨0,sp,nm,Fl sp nm l⟩;have s:RX C bi a _ .slnil .slnil g (JL sp nm l q):=Z;have O:=Y.trans x8;clear Z;have Ą:Cy h7 4 (Pt bi 10) (.agg [I 0,I sp,.str nm,.bool (Fl sp nm l)])=zx C:=s8;have aGO:(JL sp nm l q).ctx=⟨0,sp,nm,Fl sp nm l⟩:=rfl;obtain⟨aP9,Q⟩:=aK sp nm l q;have key:∃L t9,RX L bi a (.sl 4 [[I ((DJ q).a.len+1),I 1,S DQ,ff]]) .slnil t9 g (Mr sp nm l q)/\Du C (Bu bi g) L (Bu bi g)/\((sp=1/\nm=AO)->Cy C 1 (Pt bi 6) (.sl 1 [[I 18]])=zx L)/\(¬(sp=1/\nm=AO)->L=C):=by
  by_cases N:sp=1/\nm=AO;.have hu:Ec [18] (.sl 1 [[I 18]]):= .mk;refine⟨put C bi 6 (.sl 1 [[I 18]]),.sl 1 [[I 18]],?_,Bd,λ_=>s.st (k:=6) (v0:= .slnil) rfl rfl,λh=>absurd N h⟩;unfold Mr;rw[Af (by rw[RG,aGO];exact As N)];exact s.oS hu
  .refine⟨C,.slnil,?_,.refl,λh=>absurd h N,λ_=>rfl⟩;unfold Mr;rw[Ac (by rw[RG,aGO];exact λh=>N (DP h))];exact s
 obtain⟨L,t9,w9,x9,k1,k2⟩:=key;obtain⟨Yc,uD,VF,mb⟩:=aCm w9 Q.rm;have em:AA (.Dk 1) [I 18]=zx (.sl 1 [[I 18]]):=rfl;have e:AA (.Dk 4) [.agg [I ((DJ q).a.len+1),I 1,S DQ,ff]]=zx (.sl 4 [[I ((DJ q).a.len+1),I 1,S DQ,ff]]):=rfl;have X:Du h (λ_=>False) Yc (Bu bi g):=(O.trans x9).trans mb;have A:=VF.st (k:=8) (v:=I (-1)) rfl rfl;have hw:DQ=aXv:=rfl;have He:∃h',RX h' bi a (.sl 4 [[I ((DJ q).a.len+1),I 1,S DQ,ff]]) .slnil t9 g (VG sp nm l q f)/\Du h (λ_=>False) h' (Bu bi g)/\(f=zb->h'=put Yc bi 8 (I (-1)))/\(f=zw->h'=Yc):=by
  cases f with
  |true=>exact⟨_,by unfold VG;rw[Af rfl];exact VF.put (k:=8) rfl rfl VF.o VF.t,X.trans Bd,λ_=>rfl,λh=>absurd h Bf⟩
  |false=>exact⟨Yc,VF,X,λh=>absurd h Bf,λ_=>rfl⟩
 obtain⟨h',w',x',W,V⟩:=He;refine⟨h1,h2,h',a,bi,_,t9,g,r1,r2,?_,w',x'⟩;rw[Ad,aFM];by_cases hsp:sp=1
 .by_cases d:nm=AO
  .have uH:=k1 ⟨hsp,d⟩;cases f with
   |true=>rw[W rfl];simp only[abS,Nat.reduceLeDiff,↓reduceIte,AQ,JO,H,E,B,e,z,u,D,Ą,AE hsp,AE d,em,uH,uD,A]
   |false=>rw[V rfl];simp only[abS,Nat.reduceLeDiff,↓reduceIte,AQ,JO,H,E,B,e,z,u,D,Ą,AE hsp,AE d,em,uH,uD]
  .have wh:=k2 λh=>d h.2;subst wh;cases f with
   |true=>rw[W rfl];simp only[abS,Nat.reduceLeDiff,↓reduceIte,AQ,JO,H,E,B,e,z,u,D,Ą,AE hsp,d,uD,A]
   |false=>rw[V rfl];simp only[abS,Nat.reduceLeDiff,↓reduceIte,AQ,JO,H,E,B,e,z,u,D,Ą,AE hsp,d,uD]
 .have wh:=k2 λh=>hsp h.1;subst wh;cases f with
  |true=>rw[W rfl];simp only[abS,Nat.reduceLeDiff,↓reduceIte,AQ,JO,H,E,B,e,z,u,D,Ą,hsp,uD,A]
  |false=>rw[V rfl];simp only[abS,Nat.reduceLeDiff,↓reduceIte,AQ,JO,H,E,B,e,z,u,D,Ą,hsp,uD]
def aQx(h:Ah)(s:Fg)(hv:AL s.Aj av)(hl:DV s.Aj)(hn:z9 s.name<=1000):∃h' bi a o c t G,BK cx 22 [zj (Nc s av)] h (Pt bi 0) h'/\RX h' bi a o c t G s.b/\B4 s.b.AW c/\Du h (λ_=>False) h' (Bu bi G):=by
 have xM:(JL s.A7 s.name s.Aj s.Cs).AW=[]:=by rw[JL];simp only;rw[BS.Ex];rw[Af Kn];rfl
 cases hf:s.Mz with
 |true=>
  let⟨h1,h2,h',a,bi,o,t,G,f,r2,d,w,x⟩:=aQv h s.A7 s.name hv hl hn s.Cs s.KP s.Cs;refine⟨h',bi,a,o,zq,t,G,?_,by rw[Fg.b];rwa[Af hf],?_,x⟩;.rw[Ad,É,Nc,hf];simp[BD,f,r2,d]
  .have e:s.b.AW=[]:=by unfold Fg.b VG Mr;rw[Af hf];split<;>split<;>exact xM
   rw[e];exact⟨[],rfl,.inr ⟨rfl,rfl⟩⟩
 |false=>
  let⟨h1,h2,h',a,bi,G,f,r2,d,w,x⟩:=aLL h s.Cs;have e:s.b=DJ s.Cs:=by rw[Fg.b];rw[Ac (by rw[hf];decide)]
  refine⟨h',bi,a,zq,zq,zq,G,?_,by rwa[e],by rw[e];exact⟨[],rfl,.inr ⟨rfl,rfl⟩⟩,x⟩;simp[Ad,É,Nc,hf,BD,f,r2,d]
end
section
variable{h h':Ah}{bi a lo:Nat}{o c t:Aa}{G G' F:Nat->Prop}{b:BS}{x:Int}{m:Nat}
def aQy(w:RX h bi a o c t G b)(hc:B4 b.AW c)(rm:B0 b m):∃t' o' c' u,BK cx 48 [Pt bi 0] h (zj (WA b.Yo t' o' c')) (h++u)/\Us (h++u) (z9 h) b.Yo t' o' c':=by
 have cF:A0=140737488355328:=rfl;have ho:=rm.AI;have Sk:=rm.AW;have L:=rm.tm;let⟨t',e0,FX⟩:=AX.Gg (b:=8) w.t Ab;have E:t'.cells=[t']:=zn FX;let⟨fs,Gp,hv⟩:=hc;have HB:z9 b.AW=z9 fs:=by rw[<-Gp,Ao]
 have IJ:Ev cx 48 [Pt bi 0] h λr h'=>∃t' o' c' u,r= zj (WA b.Yo t' o' c')/\h'=h++u/\Us (h++u) (z9 h) b.Yo t' o' c':=by
  unfold Ev;simp only[aFJ,abS,Nat.reduceLeDiff,↓reduceIte,AQ,w.ld,JP,e0,E];refine Dr (i:=0) (λz:Aa×Nat=>[zj [I b.mode,I b.RL,t',z.1,zq,I b.head,I b.KP,zp b.fs,zp b.Fe,zd b.sV,zp b.skip,I b.sw,zp b.stop],I (z.2:Int)]) (λz h1=>z.2<=z9 b.AI/\∃u,h1=h++u/\NS (h++u) (z9 h) z.1 ((b.AI.take z.2).map Item.node)) (λz=>z9 b.AI-z.2) (λz h1=>∃u,h1=h++u/\NS (h++u) (z9 h) z.1 (b.AI.map Item.node)) (zq,0) rfl ⟨AV _,[],AH,.inl ⟨rfl,AH⟩⟩ ?_ ?_
  .rintro⟨V,n⟩ h1 ⟨hn,u,rfl,d⟩;simp only at hn d;have w1:=w.HY (u:=u);have wj:A5 (h++u) zf (Pt bi 2)=zx o:=w1.ld 2;have p:=AX.CK w.o;have y:=d.cells;obtain hlt|Et:=AP n b.AI.length
   .have B:=AX.BG (k:= z5) w.o hlt;rw[zt] at B;let⟨D,H,g1,e⟩:=aDT d (by rw[Ao,Ax];omega) b.AI[n].node;have f:=e.cells;have em:AA (.Dk 1) [I b.AI[n].node]=zx (.sl 1 [[I b.AI[n].node]]):=rfl;simp only[abS,↓reduceIte,wj,p,(Ab:(n:Int)<(b.AI.length:Int)),B,em,g1,f,By n];exact .next (H,n+1) rfl ⟨hlt,D,rfl,by rw[AB hlt,BL];exact e⟩ DA
   .rw[AF Et] at d;simp only[abS,↓reduceIte,wj,p,(Ab:¬(n:Int)<(b.AI.length:Int))];exact .He (V,n) rfl ⟨u,rfl,d⟩
  .rintro⟨O,N⟩ h1 ⟨u,rfl,C⟩;simp only at C;have M:=C.cells;simp only[BD,↓reduceIte];have J:=w.HY (u:=u);have s:z9 h<=(h++u).length:=AH;obtain⟨l,j⟩:∃l,l=h++u:=⟨_,rfl⟩;rw[<-j] at C J s⊢;refine Dr (i:=2) (λz:Aa×Nat=>[zj [I b.mode,I b.RL,t',O,z.1,I b.head,I b.KP,zp b.fs,zp b.Fe,zd b.sV,zp b.skip,I b.sw,zp b.stop],I (z.2:Int)]) (λz h1=>z.2<=z9 fs/\∃g,h1=l++g/\Nd (l++g) (z9 l) z.1 ((b.AW.take z.2))) (λz=>z9 fs-z.2) (λz h1=>∃g,h1=l++g/\Nd (l++g) (z9 l) z.1 b.AW) (zq,0) rfl ⟨AV _,[],AH,.inl ⟨rfl,AH⟩⟩ ?_ ?_
   .rintro⟨V,n⟩ h1 ⟨hn,g,rfl,d⟩;simp only at hn d;have w1:=J.HY (u:=g);have q:=w1.l3;have lc:=AX.CK hv;have y:=d.cells;obtain hlt|Et:=AP n fs.length
    .have B:=AX.BG (k:= z5) hv hlt;rw[z0] at B;have A:fs[n].c=b.AW[n]:=by simp only[<-Gp,CR]
     have VV:=(rm.DL fs[n].c (by rw[A];exact AN _)).2.1;let⟨av,ea,bJ⟩:=AX.Gg (b:=40) fs[n].ok Ab;have K:fs[n].v.cells=[fs[n].v]:=AX.cells fs[n].ok;have aGP:av.cells=[av]:=zn bJ;let⟨D,H,g1,e⟩:=aK4 d (by rw[Ax];omega) ⟨fs[n].c,av,bJ⟩;rw[z0] at g1;simp only at g1 e;have f:=e.cells;have em:AA (.Dk 3) [zj [I fs[n].c.node,zd fs[n].c.name,av]]=zx (.sl 3 [[I fs[n].c.node,zd fs[n].c.name,av]]):=MK rfl;simp only[abS,Nat.reduceLeDiff,↓reduceIte,AQ,q,lc,(Ab:(n:Int)<(fs.length:Int)),B,ea,aGP,em,BD,g1,f,By n];exact .next (H,n+1) rfl ⟨hlt,D,rfl,by rw[AB Ab,<-A];exact e⟩ DA
    .rw[AF Ab] at d;simp only[abS,Nat.reduceLeDiff,↓reduceIte,AQ,q,lc,(Ab:¬(n:Int)<(fs.length:Int)),aaS];exact .He (V,n) rfl ⟨g,rfl,d⟩
   .rintro⟨V,n⟩ h1 ⟨g,rfl,d⟩;simp only at d;have y:=d.cells;simp only[BD,↓reduceIte];refine⟨_,rfl,t',O,V,u++g,rfl,by rw[j,AK],.inl FX,?_,?_⟩;.rw[<-AK,<-j];exact C.Dj λi _ hi=>Ak hi
    .rw[<-AK,<-j];exact d.low s
 obtain⟨r,h',hr,t',o',c',u,rfl,rfl,hs⟩:=IJ.ret;exact⟨t',o',c',u,hr,hs⟩
end
section
variable{h h':Ah}{a n i:Nat}{ps:List RN}{A:Ar}{x:Int}
def aQz(w:RA h a n i ps A)(hb:z9 A.n<=900000000):BK cx 148 [Pt a 0] h (I A.len) h:=by
 have hl:=w.len;have e:((z9 ps+1:Nat):Int)-1=A.len:=by rw[Ar.len];omega
 have hs:=TS (a:=((z9 ps+1:Nat):Int)) (b:=1) Ab Ab;rw[e] at hs;simp only[Ad,aAu,BD,Wn,w.nodes,show AA (yz zw) [.CC n 0 (z9 ps+1) 13]=zx (I ((z9 ps+1:Nat):Int)) from rfl,hs]
def aLN(p:RN)(h1:z9 p.x.Be<=1000000000)(h2:z9 p.x.Aj<=1000000000)(h:Ah):∃r,BK cx 296 [zj p.row] h (zj r) h/\∀h',NRd h' p.x r:=by have cF:A0=140737488355328:=rfl;let⟨K,j,d⟩:=AX.Gg (b:=8) p.okk Ab;let⟨V,g,c⟩:=AX.Gg (b:=40) p.oka Ab;have f:K.cells=[K]:=zn d;have e:V.cells=[V]:=zn c;refine⟨_,?_,λh'=>⟨K,V,rfl,Ec.S4 d,Z5 c,f,e⟩⟩;simp[Ad,aBb,RN.row,BD,j,f,g,e]
def aQA(w:RA h a n i ps A)(hk:∀x,(A.nd x).Be.length<=1000000000)(ha:∀x,(A.nd x).Aj.length<=1000000000)(hb:z9 A.n<=900000000):∃v,BK cx 151 [Pt a 0] h v h/\∀h',aM h' v A.n:=by
 have cF:A0=140737488355328:=rfl;have pS:=w.len;have IJ:Ev cx 151 [Pt a 0] h λr h'=>h'=h/\∀h',aM h' r A.n:=by
  rw[Ev];rw[aAx];refine Bj (λz:Aa×Nat=>[z.1,I ((z.2+1:Nat):Int)]) (λz h1=>z.2<=z9 ps/\h1=h/\∃AD:List (List Aa),AX 13 AD z.1/\z9 AD=z.2/\∀h' k (h1:k<z9 AD) (h2:k<z9 A.n),NRd h' A.n[k] AD[k]) (λz=>z9 ps-z.2) (zq,0) rfl ⟨AV _,rfl,[],.nil,rfl,λh' k h1=>by simp at h1⟩ ?_;rintro⟨V,k⟩ h1 ⟨bQ,rfl,AD,d,e,f⟩;simp only at bQ d e;have g:AA (yz zw) [.CC n 0 (z9 ps+1) 13]=zx (I ((z9 ps+1:Nat):Int)):=rfl;obtain hlt|Et:=AP k (z9 ps)
  .let⟨hx,ex⟩:=bd (A:=A) (k:=k) Ab;have c:=(w.pn hx).2;have ld:=w.aD0 hx;have ea:=w.addr hx;let⟨r,l,hr⟩:=aLN (pR ps ((k:Int)+1)) (by rw[c];exact hk _) (by rw[c];exact ha _) h1;rw[c,ex] at hr;have em:AA (.Dk 13) [zj r]=zx (.sl 13 [r]):=by let⟨K,W,o,_⟩:=hr [];exact MZ (a:= zj r) (by rw[o];rfl) Bf
   have s:=AX.yD (b:=168) (row:=r) d Ab;have p:((k+1:Nat):Int)=(k:Int)+1:=Ab;have inc:AA (.int .add) [I ((k:Int)+1),I 1]=zx (I ((k:Int)+1+1)):=Pd Ab Ab;simp[abS,w.nodes,g,p,(Ab:(k:Int)+1<(z9 ps:Int)+1),Int.natCast_add,Int.natCast_one,ea,ld,l,em,s,inc];refine z6 (_,k+1) rfl ⟨hlt,rfl,AD++[r],.mk,by simp[e],λh' j h1 h2=>?_⟩ DA;by_cases hj:j<z9 AD;.rw[IQ hj];exact f h' j hj h2
   .have q:j=k:=by simp at h1;omega
    subst q;rw[ń Ab];simp[e,Dl,aHp];exact hr h'
  .simp only[abS,w.nodes,g,(Ab:¬((k+1:Nat):Int)<((z9 ps+1:Nat):Int))];exact⟨_,rfl,λh'=>⟨AD,d,Ab,λj a b=>f h' j a b⟩⟩
 obtain⟨r,h',hr,rfl,m⟩:=IJ.ret;exact⟨r,hr,m⟩
end
def RB(h:Ah)(bi:Nat)(b:BS)(F:Nat->Prop):Prop:=∃a o c t G,RX h bi a o c t G b/\B4 b.AW c/\F=Bu bi G
structure VI(h:Ah)(bi wi:Nat)(b:BS)(F F2:Nat->Prop):Prop where
 p:PB h bi b F
 r:RB h wi b F2
 d:∀i,F i->¬F2 i
structure RP(b:BS)(j:Nat):Prop where
 ok:ET b
 sz:Sz b j
 nm:Nm b.a
section
variable{h h':Ah}{bi wi:Nat}{b:BS}{F F2:Nat->Prop}{q:uF}{av:Aa}{j:Nat}
def RB.lt(w:RB h bi b F){i:Nat}(hi:F i):i<z9 h:=by
 obtain⟨a,o,c,t,G,w,_,rfl⟩:=w;obtain rfl|hi:=hi
 .exact w.lt
 .exact w.w.lt hi
def RB.Dj(w:RB h bi b F)(hf:∀i,F i->h'[i]?=h[i]?):RB h' bi b F:=by obtain⟨a,o,c,t,G,w,hc,rfl⟩:=w;exact⟨a,o,c,t,G,w.Dj hf,hc,rfl⟩
def RB.HY(w:RB h bi b F){u:Ah}:RB (h++u) bi b F:=w.Dj λi hi=>Ak (w.lt hi)
def VI.HY(w:VI h bi wi b F F2){u:Ah}:VI (h++u) bi wi b F F2:=⟨w.p.HY,w.r.HY,w.d⟩
def RP.le{k:Nat}(f:RP b j)(hk:k<=j):RP b k:=⟨f.ok,⟨f.sz.rm.le Ab,by have:=f.sz.AI;omega,by have:=f.sz.AW;omega⟩,f.nm⟩
def RP.He(f:RP b j):Fin b j:=⟨f.ok,f.sz⟩
def RP.do(f:RP b (j+1))(hq:ug q):RP (aG b q).1 j:=⟨aGL f.ok,aGM f.sz hq,aGR f.nm f.sz hq⟩
def Fg.pA(s:Fg):RP s.b 100:=⟨s.ok.1,s.ok.2,Ċ s⟩
def VI.prog{b':BS}{F':Nat->Prop}(w:VI h bi wi b F F2)(p:PB h' bi b' F')(x:Du h F h' F'):RB h' wi b F2/\∀i,F' i->¬F2 i:=
 ⟨w.r.Dj λi hi=>x.old i (w.r.lt hi) λhp=>w.d i hp hi,λi h1 h2=>by
  obtain a|a:=x.Bu i h1
  .exact w.d i a h2
  .have:=w.r.lt h2;omega⟩
def aQC(w:RB h bi b F)(f:RP b (j+1))(hq:ug q)(hv:AL q.Aj av):∃h' F',BK cx 24 [Pt bi 0,zj (Mk q av)] h (zj (aG b q).2.row) h'/\RB h' bi (aG b q).1 F'/\Du h F h' F':=by obtain⟨a,o,c,t,G,w,hc,rfl⟩:=w;let⟨h',o',c',t',G',r,w',Jq,x⟩:=aQt w hc f.ok f.sz f.nm hq hv;exact⟨h',_,r,⟨a,o',c',t',G',w',Jq,rfl⟩,x⟩
def aCo(w:VI h bi wi b F F2)(f:RP b (j+1))(hq:ug q)(hv:AL q.Aj av):∃h1 h2 F' a,BK cx 23 [Pt bi 0,zj (Mk q av)] h (zj (aG b q).2.row) h1/\BK cx 24 [Pt wi 0,zj (Mk q av)] h1 (zj (aG b q).2.row) h2/\VI h2 bi wi (aG b q).1 F' a:=by
 let⟨h1,F',n,w1,k⟩:=aQc w.p f.He hq hv;let⟨m,g⟩:=w.prog w1 k;let⟨h2,a,r2,l,c⟩:=aQC m f hq hv;refine⟨h1,h2,F',a,n,r2,w1.Dj λi hi=>c.old i (w1.lt hi) (g i hi),l,λi e o=>?_⟩;obtain d|d:=c.Bu i o
 .exact g i e d
 .have:=w1.lt e;omega
section
variable(s:Fg)(hv:AL s.Aj av)(hl:DV s.Aj)(hn:s.name.length<=1000)(h:Ah)
def aQD:∃h' bi F,BK cx 22 [zj (Nc s av)] h (Pt bi 0) h'/\RB h' bi s.b F/\Du h (λ_=>False) h' F:=by let⟨h',bi,a,o,c,t,G,r,w,hc,x⟩:=aQx h s hv hl hn;exact⟨h',bi,_,r,⟨a,o,c,t,G,w,hc,rfl⟩,x⟩
end
def bj(s:Fg)(hv:AL s.Aj av)(hl:DV s.Aj)(hn:z9 s.name<=1000)(h:Ah):∃h1 h2 bi wi F F2,BK cx 21 [zj (Nc s av)] h (Pt bi 0) h1/\BK cx 22 [zj (Nc s av)] h1 (Pt wi 0) h2/\VI h2 bi wi s.b F F2:=by
 let⟨h1,bi,F,e,w1,k⟩:=aQd s hv hl h;let⟨h2,wi,F2,r2,d,a⟩:=aQD s hv hl hn h1;refine⟨h1,h2,bi,wi,F,F2,e,r2,w1.Dj λi hi=>a.old i (w1.lt hi) (λh=>h),d,λi g f=>?_⟩;obtain c|c:=a.Bu i f
 .exact c
 .have:=w1.lt g;omega
end
def VJ:∀{l:List QO} {b:BS} {j:Nat},RP b (j+z9 l)->(∀x∈l,ug x.q)->RP (Kw b l) j
 |[],_,_,f,_=>f
 |x::l,b,j,f,hq=>by rw[Kw];exact VJ (RP.do (j:=j+z9 l) (f.le (by simp[Bn];omega)) (hq x AH)) λy hy=>hq y (by simp[hy])
def aQE(i:Item):AA (.geq zb [.i,.i,.s,.b]) [zj i.row,zj i.row]=zx (zp zw):=by rw[SQ];simp[zt,Ek,Mb]
section
variable{h h':Ah}{bi wi:Nat}{b:BS}{F F2:Nat->Prop}{q:uF}{av:Aa}{j:Nat}
def f7w(s:Fg)(hv:AL s.Aj av)(hl:DV s.Aj)(hn:z9 s.name<=1000){l:List QO}{v:Aa}(ho:fS l v)(hb:z9 l<=60)(hq:∀x∈l,ug x.q)(h:Ah):
  ∃h' bi wi F F2,BK cx 15 [zj (Nc s av),v] h (zh [Pt bi 0,Pt wi 0,tt]) h'/\VI h' bi wi (Kw s.b l) F F2:=by
 let⟨h1,h2,bi,wi,F,F2,f,r2,w0⟩:=bj s hv hl hn h;have IJ:Ev cx 15 [zj (Nc s av),v] h λr h'=>r= zh [Pt bi 0,Pt wi 0,tt]/\∃F F2,VI h' bi wi (Kw s.b l) F F2:=by
  rw[Ev];have g:=AX.CK ho;rw[aFD];rw[Nc] at f r2⊢;simp only[abS,f,r2];refine Bj (λn:Nat=>[z8 zf,z8 zf,ff,I (n:Int)]) (λn h1=>n<=z9 l/\∃F F2,VI h1 bi wi (Kw s.b (l.take n)) F F2) (λn=>z9 l-n) 0 rfl ⟨AV _,F,F2,w0⟩ ?_;rintro n z ⟨ND,u,t,a⟩;obtain hlt|Et:=AP n (z9 l)
  .have m:=AX.BG (k:= z5) ho hlt;have pA:RP (Kw s.b (l.take n)) (39+1):=(VJ (j:=40) (l:=l.take n) (s.pA.le (by rw[Ax];omega)) λx hx=>hq x (BJ hx));let⟨y,w,p,o,e,d,i⟩:=aCo a pA (hq _ (AN hlt)) l[n].ok;have hr:Mk l[n].q l[n].v=l[n].row:=rfl;rw[hr] at e d;simp only[abS,g,(Ab:(n:Int)<(z9 l:Int)),m,QO.CS,QO.Iu,Ae,e,BN,d,aQE,By n];exact z6 (n+1) rfl ⟨hlt,p,o,by rwa[AB hlt,aL]⟩ Ab
  .rw[AF Et] at a;simp only[abS,g,(Ab:¬(n:Int)<(z9 l:Int))];exact⟨_,rfl,rfl,u,t,a⟩
 obtain⟨r,h',hr,rfl,F',c,w'⟩:=IJ.ret;exact⟨h',bi,wi,F',c,hr,w'⟩
def f8g{m:Nat}(w:VI h bi wi b F F2)(rm:B0 b m)(ok:E1 b.a 0):∃u,BK cx 18 [Pt bi 0,Pt wi 0] h tt (h++u):=by
 let⟨a,o,c,t,G,wp,hc,e1⟩:=w.p;let⟨S,U,c1,f,N,E⟩:=aQb wp hc rm;have w1:=w.HY (u:=f);let⟨a',o',c',t',G',wr,Jq,Z⟩:=w1.r;let⟨t2,T,c2,d,r2,D⟩:=aQy wr Jq rm;have Y:=rm.tm;have X:=rm.AI;have W:=rm.AW;have V:=rm.n;have M:=f22 (E.Dj (h':=h++f++d) λi _ hi=>Ak hi) D (Ab:z9 b.tm<=1000000000) (show(b.AI.map Item.node).length<=1000000000 by rw[Ao];omega) (Ab:z9 b.AW<=1000000000) (λe he=>by have:=(rm.DL e he).2.1;omega);have v:=(wp.HY (u:=f)).HY (u:=d);have s:=wr.HY (u:=d);have l0:=v.l0;have A:=s.l0;have B:∀x,(b.a.nd x).Be.length<=1000000000:=λx=>rm.Wt.Be ok x;have ab:∀x,(b.a.nd x).Aj.length<=1000000000:=λx=>by have:=rm.at_ x;omega
 let⟨n,m',ps,C⟩:=v.w.pa;let⟨n',i',JK,g,_⟩:=s.w;let⟨R,l,K,P⟩:=aQh C rm.Wt B Ab;have L:=aPh C;have z:=aQz g Ab;have y:RA (h++f++d++l) a' n' i' JK b.a:=g.Dj λj hj=>Ak (g.lt hj);let⟨v2,J,O⟩:=aQA y B ab Ab;have I:=f90 P.rd (O (h++f++d++l)) Ab (λx hx=>by obtain⟨k,hk,rfl⟩:=List.getElem_of_mem hx;have:=(bd hk).2;rw[<-this];exact⟨ab _,B _⟩)
 have H:BK cx 49 [Pt a 0,Pt a' 0] (h++f++d) tt (h++f++d++l):=by simp only[Ad,aFK,BD,L,z,CG,DO,K,J,I]
 refine⟨f++d++l,?_⟩;simp only[Ad,aFG,show h++(f++d++l)=h++f++d++l by simp[AK],abS,N,r2,M,l0,A,H]
end
structure Fq where
 k:Int
 name:Ai
 hn:Bool
 vz:Ai
 hp:Bool
 sys:Ai
 hs:Bool
 q:Bool
 Aj:List A9
 sc:Bool
 data:Ai
 r:Int
namespace Fq
def ok(t:Fq):Prop:=1<=t.k/\t.k<=6
instance(t:Fq):Decidable t.ok:=by rw[ok];infer_instance
def st(t:Fq)(ws:List Ai):Prop:=t.k=2/\t.name∈ws
instance(t:Fq)(ws:List Ai):Decidable (t.st ws):=by rw[st];infer_instance
def en(t:Fq)(ws:List Ai):Prop:=t.k=3/\t.name∈ws
instance(t:Fq)(ws:List Ai):Decidable (t.en ws):=by rw[en];infer_instance
def odd(t:Fq)(ws:List Ai):Prop:=t.k=3/\t.name∉ws
instance(t:Fq)(ws:List Ai):Decidable (t.odd ws):=by rw[odd];infer_instance
end Fq
def aR(r:Int):Prop:=(9<=r/\r<=10)\/(12<=r/\r<=13)\/r=32
instance(r:Int):Decidable (aR r):=by rw[aR];infer_instance
namespace Fq
def Lg(t:Fq):Prop:=t.k=5/\aR t.r
instance(t:Fq):Decidable t.Lg:=by rw[Lg];infer_instance
end Fq
def ď:List Ai:=[aXY,aXs,aXD,aXv,[98,114]]
def WD:List Ai:=[[98,97,115,101],aY2,[98,103,115,111,117,110,100],[108,105,110,107],[109,101,116,97]]
def sNS:List Ai:=[aY0,[115,116,121,108,101]]
def Ng:List Ai:=[[98,97,115,101],aY2,[98,103,115,111,117,110,100],[108,105,110,107],[109,101,116,97],aY0,aXZ,[115,116,121,108,101],aXs,aXT]
def S8:List Ai:=[aYB,[97,114,116,105,99,108,101],[97,115,105,100,101],aYQ,[99,101,110,116,101,114],[100,101,116,97,105,108,115],[100,105,97,108,111,103],[100,105,114],aYX,[100,108],aYW,aYR,[102,105,103,117,114,101],[102,111,111,116,101,114],[104,101,97,100,101,114],[104,103,114,111,117,112],[109,97,105,110],[109,101,110,117],[110,97,118],[111,108],[112],[115,101,97,114,99,104],[115,101,99,116,105,111,110],[115,117,109,109,97,114,121],[117,108]]
def QW:List Ai:=[[112,114,101],[108,105,115,116,105,110,103]]
def RQ:List Ai:=[[98],[98,105,103],[99,111,100,101],[101,109],[102,111,110,116],[105],[115],[115,109,97,108,108],[115,116,114,105,107,101],[115,116,114,111,110,103],[116,116],[117]]
def Ny:List Ai:=[aYJ,aYE,aYM]
def S9:List Ai:=[[97,114,101,97],[98,114],[101,109,98,101,100],aYi,aXH,[107,101,121,103,101,110],[119,98,114],aXP,aYS,aYL,aYT,[104,114]]
def QX:List Ai:=[aX4,[99,111,108],aYk,[102,114,97,109,101],aXY,aYq,[116,100],aYo,[116,104],aYr,[116,114]]
def bk:List Ai:=[aXG,aYa,aXW,aX1,aXF]
def aS:List Ai:=[[114,98],aYx,[114,112],[114,116]]
def Xq:List Ai:=[aYF,aYY]
def aT:List Ai:=[[108,105],[100,100],[100,116]]
def Uv:List Ai:=[aYe,aXR]
def Ta:List Ai:=[aXv,aXD]
def P0:List Ai:=[aYB,aYX,[112]]
def pX:List Ai:=[[100,100],[100,116]]
def QY:List Ai:=[aYS,aYL,aYT]
namespace BS
def Ey(b:BS)(t:Fq):BS:=b.D9 t.name t.Aj 1
def Iw(b:BS)(t:Fq):BS:=(b.Ey t).IW
def again(b:BS)(m:Int):BS×Bool:=({b with mode:=m},zb)
def Rs(b:BS):Prop:=0<=AZ (AU [AO]) b.AI
instance(b:BS):Decidable b.Rs:=by rw[Rs];infer_instance
section
variable(b:BS)
def has(ws:List Ai):Bool:=HZ (AU ws) (HG 1) b.AI.reverse
def GR(nm ex:Ai):BS:={b with AI:=DI Cx (AU [nm]) (DI (Di ex) Cx b.AI)}
def QZ(t:Fq):BS:=if b.Rs\/b.AI=[] then b else b.EG t.Aj (Dc b.AI 0).node
def Ij:Bool:=decide (2<=z9 b.AI)&&AU [aXD] (Dc b.AI 1)
def Nh(t:Fq):BS:=
 if b.Rs\/b.AI=[] then b else if t.name=aXv then b.EG t.Aj (Dc b.AI 0).node
 else if b.Ij then({b with fs:=zw}:BS).EG t.Aj (Dc b.AI 1).node else b
def Kh(t:Fq):BS×Bool:=
 if¬t.ok then(b,zw)
 else if t.k=1 then(b,zw)
 else if t.st [aXY] then(b,zw)
 else if t.odd ď then(b,zw)
 else if t.Lg then(b.Xd t.r,zw)
 else if t.k=4 then(b.HN t.data 0,zw)
 else if t.st [aXv] then(b.QZ t,zw)
 else if t.st WD then(b.Iw t,zw)
 else if t.st [aXT] then(b.DE t.name t.Aj 2,zw)
 else if t.st sNS then(b.DE t.name t.Aj 3,zw)
 else if t.st [aXZ] then(b.DE t.name t.Aj 4,zw)
 else if t.st [aXS] then({b.Ey t with mode:=5},zw)
 else if t.en [aXY] then({b.IW with mode:=6},zw)
 else if t.st [AO] then
  let b1:=b.Ey t
  ({b1 with AW:=b1.AW++[z4],fs:=zw,mode:=18,tm:=b1.tm++[18]},zw)
 else if t.en [AO] then(b.CT,zw)
 else b.IW.again 6
def block(t:Fq):BS:=b.BH.Ey t
def MC(t:Fq):BS:=
 let b1:=b.BH
 (if AU CZ (DB b1.AI) then b1.IW else b1).Ey t
def UO(t:Fq):BS:={b.block t with skip:=zb,fs:=zw}
def Uw(t:Fq):BS:=
 if b.KP≠0/\¬b.Rs then b else
 let b1:=b.BH
 if b.Rs then b1.Ey t else{b1.Ey t with KP:=b1.M5 1}
end
def Hi(ws:List Ai)(i:Item):Bool:=AU ws i||(C1 i&& !(AU P0 i))
def EU(b:BS)(ws:List Ai):BS:=match b.AI.reverse.find? (Hi ws) with
 |zx i=>if AU ws i then b.GR i.name i.name else b
 |zf=>b
def uM(b:BS)(t:Fq):BS:=(({b with fs:=zw}:BS).EU (if t.name=[108,105] then[[108,105]] else pX)).block t
def Q0(b:BS)(t:Fq):BS:=
 let b1:=if b.has [aXw] then b.GR aXw [] else b
 {b1.A6.Ey t with fs:=zw}
def fmt(b:BS)(t:Fq):BS:=b.A6.GX t.name t.Aj
def IY(l:List B5)(n:Int):List B5:=if D8 n l<0 then l else Bg l (D8 n l).toNat
def Ni(b:BS):BS:=
 let k:=DT [97] b.AW
 if k<0 then b else
 let n:=(b.AW.getD k.toNat z4).node
 let b1:=b.CI [97]
 {b1 with AW:=IY b1.AW n,AI:=CN n b1.AI}
section
variable(b:BS)(t:Fq)
def uN:BS:=b.Ni.fmt t
def uO:BS:=
 let b1:=b.A6
 (if b1.has [aXE] then(b1.CI aXE).A6 else b1).GX t.name t.Aj
def BW:BS:=
 let b1:=b.A6.Ey t
 {b1 with AW:=b1.AW++[z4],fs:=zw}
def Pv:BS:=
 let b1:=if(b.a.nd b.CF).Cs then b else b.BH
 {b1.Ey t with fs:=zw,mode:=9}
end
def Ik(l:List A9):Bool:=match l.find? λa=>decide (a.name=aYm) with
 |zx a=>decide (FI a.value=aYd)
 |zf=>zw
section
variable(b:BS)(t:Fq)
def empty:BS:=
 if t.name=[104,114] then{b.BH.Iw t with fs:=zw}
 else if t.name∈QY then{b.Iw t with fs:=b.fs}
 else if t.name=aXP then{b.A6.Iw t with fs:=b.fs&&Ik t.Aj}
 else{b.A6.Iw {t with name:=if t.name=aXH then aYi else t.name} with fs:=zw}
def raw:BS:=
 if t.name=aXF then{b.block t with sw:=5}
 else if t.name=aXG then{b.DE t.name t.Aj 2 with skip:=zb,fs:=zw}
 else if t.name=aYa then({b.BH.A6 with fs:=zw}:BS).DE t.name t.Aj 3
 else if t.name=aXW then({b with fs:=zw}:BS).DE t.name t.Aj 3
 else b.DE t.name t.Aj 3
def Q1:BS:=
 {b.A6.Ey t with fs:=zw,mode:=if b.mode=9\/b.mode=11\/b.mode=13\/b.mode=14\/b.mode=15 then 17 else 16}
def Q2:BS:=(if AU [aXR] (DB b.AI) then b.IW else b).A6.Ey t
def aU:BS:=
 (if b.has [aX3] then{b with AI:=DI (Di (if t.name=[114,112]\/t.name=[114,116] then aYx else[])) Cx b.AI} else b).Ey t
def MD:BS:=
 let b1:=b.A6.D9 t.name t.Aj (if t.name=aYF then 3 else 2)
 if t.sc then b1.IW else b1
def JE:BS:=
 if b.Ij=zw\/b.fs=zw then b else
 {({b with a:=b.a.cut (Dc b.AI 1).node,AI:=b.AI.take 1}:BS).Ey t with mode:=20}
def opens:BS×Bool:=
 if t.name∈Ng then b.Kh t
 else if t.name∈S8 then(b.block t,zw)
 else if t.name∈CZ then(b.MC t,zw)
 else if t.name∈QW then(b.UO t,zw)
 else if t.name∈RQ then(b.fmt t,zw)
 else if t.name∈Ny then(b.BW t,zw)
 else if t.name∈S9 then(b.empty t,zw)
 else if t.name∈QX then(b,zw)
 else if t.name∈bk then(b.raw t,zw)
 else if t.name∈aS then(b.aU t,zw)
 else if t.name∈Xq then(b.MD t,zw)
 else if t.name∈aT then(b.uM t,zw)
 else if t.name∈Uv then(b.Q2 t,zw)
 else if t.name∈Ta then(b.Nh t,zw)
 else if t.name=aXy then(b.JE t,zw)
 else if t.name=aXX then(b.Uw t,zw)
 else if t.name=aXw then(b.Q0 t,zw)
 else if t.name=[97] then(b.uN t,zw)
 else if t.name=aXE then(b.uO t,zw)
 else if t.name=aXA then(b.Pv t,zw)
 else if t.name=aXN then(b.Q1 t,zw)
 else(b.A6.Ey t,zw)
end
def Q3(b:BS)(sc:Int)(q:Item->Bool):Bool:=HZ q (HG sc) b.AI.reverse
end BS
structure Gz(b:BS)(n o a:Nat):Prop where
 ok:ET b
 rm:B0 b n
 AI:z9 b.AI<=o
 AW:z9 b.AW<=a
structure Fq.Sm(t:Fq):Prop where
 name:z9 t.name<=1000
 Aj:DV t.Aj
 data:z9 t.data<=1000
 r: -2147483648<=t.r/\t.r<=2147483647
section
variable{b b':BS}{n n' o o' a a':Nat}{nm:Ai}{l:List A9}{t:Fq}{sp:Int}
def Gz.le(g:Gz b n o a)(h1:n'<=n)(h2:o<=o')(c:a<=a'):Gz b n' o' a':=⟨g.ok,g.rm.le h1,Bv g.AI h2,Bv g.AW c⟩
def Gz.ite{c:Prop}[Decidable c]{x y:BS×Bool}(h1:Gz x.1 n o a)(h2:Gz y.1 n o a):Gz (if c then x else y).1 n o a:=by split;exact h1;exact h2
def Gz.aQG{d c:Prop}[Decidable d][Decidable c]{x y:BS×Bool}(h1:Gz x.1 n o a)(h2:Gz y.1 n o a):Gz (if d then x else if c then x else y).1 n o a:= .ite h1 (.ite h1 h2)
def Gz.aQH{e d c:Prop}[Decidable e][Decidable d][Decidable c]{x y:BS×Bool}(h1:Gz x.1 n o a)(h2:Gz y.1 n o a):Gz (if e then x else if d then x else if c then x else y).1 n o a:= .ite h1 (.aQG h1 h2)
def Gz.aQI{f e d c:Prop}[Decidable f][Decidable e][Decidable d][Decidable c]{x y:BS×Bool}(h1:Gz x.1 n o a)(h2:Gz y.1 n o a):Gz (if f then x else if e then x else if d then x else if c then x else y).1 n o a:= .ite h1 (.aQH h1 h2)
def Gz.dn(g:Gz b n o a)(h:n'<=n):Gz b n' o a:=g.le h (Ae _) (Ae _)
def Gz.L9(g:Gz b (n+4) o a)(hl:DV l)(hn:z9 nm<=1000):Gz (b.D9 nm l sp) n (o+1) a:=by
 refine⟨QQ g.ok,JY g.rm hl hn,?_,by rw[Er];exact g.AW⟩;have:=g.AI;rw[BS.D9];split
 .rename_i hs;have e:(b.Ex nm l sp (b.place 0).1).AI=b.AI:=by rw[BS.Ex];rw[Af hs]
  simp[e,Aw,Bl];omega
 .omega
def Gz.eq{c:BS}(g:Gz b n o a)(h1:c.a=b.a)(h2:c.CF=b.CF)(e:c.AI=b.AI)(d:c.AW=b.AW)(f:c.tm=b.tm):Gz c n o a:=
 ⟨g.ok.of_eq h1 h2 e d,g.rm.eq h1 e d f,by rw[e];exact g.AI,by rw[d];exact g.AW⟩
section
variable(g:Gz b n o a){lo:List Item}
def Gz.sub{lc:List B5}{lt:List Int}(h1:lo.Sublist b.AI)(h2:lc.Sublist b.AW)(c:z9 lt<=z9 b.tm):Gz {b with AI:=lo,AW:=lc,tm:=lt} n o a:=
 ⟨((g.ok.K5 h1).tD (by exact h2)).of_eq rfl rfl rfl rfl,g.rm.sub rfl h1 h2 c,Bv h1.length_le g.AI,Bv h2.length_le g.AW⟩
def Gz.K5(h1:lo.Sublist b.AI):Gz {b with AI:=lo} n o a:=g.sub h1 (A4 _) (Ae _)
end
def Gz.GX(g:Gz b (n+5) o a)(hl:DV l)(hn:z9 nm<=1000):Gz (b.GX nm l) n (o+1) (a+1):=by
 have g1:=(g.le (n':=n+1+4) Ab (Ae _) (Ae _)).L9 (sp:=1) hl hn;refine⟨eZ g.ok,Wu g.rm hl hn,g1.AI,?_⟩;rw[BS.GX];simp only
 let⟨l',h1,h2⟩:=T5 (l:=(b.D9 nm l 1).AW) (e:=⟨b.a.len+1,nm,l⟩);rw[h2,Aw,Bl];have:=h1.length_le;have:=g1.AW;omega
def Gz.A6(g:Gz b (n+4*a) o a):Gz b.A6 n (o+a) a:=by have h1:=g.AW;have h2:=g.AI;have h:=Uo (m:=n) (g.rm.le Ab);exact⟨ZK g.ok,h.1,Ab,Ab⟩
def Gz.CI(g:Gz b (n+8*(4*(o+8)+10)) o a):Gz (b.CI nm) n (o+8) (a+8):=by
 refine⟨fD g.ok,?_,?_,?_⟩<;>unfold BS.CI<;>split
 .unfold z7;split;.exact g.rm.le Ab
  .exact(g.rm.K5 (CB _ _)).le Ab
 .exact(NR g.AI g.rm).1
 .have:=g.AI;rw[z7];split;.omega
  .simp only[Ax];omega
 .exact(NR g.AI g.rm).2
 .have:=g.AW;rw[z7];split<;>(try simp only)<;>omega
 .have:=g.AW;have:=S7 (n:=8) (b:=b) (nm:=nm);omega
def Gz.Xd(g:Gz b (n+5) o a){r:Int}:Gz (b.Xd r) n o a:=⟨iv g.ok,Wy g.rm (Uk _),g.AI,g.AW⟩
def Gz.HN(g:Gz b (n+5) o a){s:Ai}(hs:z9 s<=1000){p:Int}:Gz (b.HN s p) n o a:=by
 refine⟨ZI g.ok,?_,g.AI,g.AW⟩;rw[BS.HN];split;.exact KS g.rm Ab
 .exact KS g.rm Ab
def Gz.EG(g:Gz b (n+1000) o a)(hl:DV l){h:Int}:Gz (b.EG l h) n o a:=by
 refine⟨tF g.ok,aI g.rm hl.1,?_,?_⟩<;>unfold BS.EG<;>split;.exact g.AI
 .exact g.AI
 .exact g.AW
 .exact g.AW
section
variable(g:Gz b n o a)
def Gz.IW:Gz b.IW n o a:=by
 rw[z7];split;.exact g
 .exact g.K5 (CB _ _)
def Gz.GR{x:Ai}:Gz (b.GR nm x) n o a:=g.K5 (C9.trans C9)
def Gz.BH:Gz b.BH n o a:=by
 rw[BS.BH];split;.exact g.K5 (C9.trans C9)
 .exact g
def Gz.H7:Gz b.H7 n o a:=g.eq rfl rfl rfl rfl rfl
end
def Gz.mark(g:Gz b (n+1) o a):Gz {b with AW:=b.AW++[z4]} n o (a+1):=by
 refine⟨mc g.ok,g.rm.iy (e:=z4) AH (λe he=>?_) ⟨Bf,Bf,λa ha=>by cases ha⟩,g.AI,?_⟩
 .rcases Ay.1 he with he|he
  .exact .inl he
  .exact .inr (zv he)
 .have:=g.AW;simp[Aw,Bl];omega
def Gz.tm(g:Gz b (n+1) o a){m:Int}:Gz {b with tm:=b.tm++[m]} n o a:=by have r:=g.rm;have c:=r.le (m':=n) Ab;exact⟨g.ok.of_eq rfl rfl rfl rfl,⟨c.n,c.at_,c.data,c.AI,c.AW,by have:=r.tm;simp[Aw,Bl];omega,c.DL,c.Xe⟩,g.AI,g.AW⟩
def Gz.CT(g:Gz b n o a):Gz b.CT n o a:=by
 rw[BS.CT];split;.exact g
 .exact(g.sub (lo:=DI Cx (AU [AO]) (DI CM Cx b.AI)) (lc:=GB b.AW) (lt:=b.tm.dropLast) (C9.trans C9) (CB _ _) AH).H7
section
variable(g:Gz b (n+4) o a)
def Gz.DE{s:Int}(hl:DV l)(hn:z9 nm<=1000):Gz (b.DE nm l s) n (o+1) a:=(g.L9 (sp:=1) hl hn).eq rfl rfl rfl rfl rfl
def Gz.Ey(ht:t.Sm):Gz (b.Ey t) n (o+1) a:=g.L9 ht.Aj ht.name
def Gz.Iw(ht:t.Sm):Gz (b.Iw t) n (o+1) a:=(g.Ey ht).IW
end
def Gz.QZ(g:Gz b (n+1000) o a)(ht:t.Sm):Gz (b.QZ t) n o a:=by
 rw[BS.QZ];split;.exact g.le Ab (Ae _) (Ae _)
 .exact g.EG ht.Aj
def Gz.Kh(g:Gz b (n+1004) o a)(ht:t.Sm):Gz (b.Kh t).1 n (o+1) (a+1):=by have g0:Gz b n (o+1) (a+1):=g.le Ab Ab Ab;have d:Gz b (n+4) o a:=g.le Ab Ab Ab;rw[BS.Kh];refine .aQI g0 (.ite ((g.le (n':=n+5) Ab (Ae _) (Ae _)).Xd.le (Ae _) Ab Ab) (.ite (((g.le (n':=n+5) Ab (Ae _) (Ae _)).HN ht.data).le (Ae _) Ab Ab) (.ite (((g.le (n':=n+1000) Ab (Ae _) (Ae _)).QZ ht).le (Ae _) Ab Ab) (.ite ((d.Iw ht).le (Ae _) Ab Ab) (.ite ((d.DE ht.Aj ht.name).le (Ae _) Ab Ab) (.ite ((d.DE ht.Aj ht.name).le (Ae _) Ab Ab) (.ite ((d.DE ht.Aj ht.name).le (Ae _) Ab Ab) (.ite (((d.Ey ht).le (Ae _) Ab Ab).eq rfl rfl rfl rfl rfl) (.ite ((d.IW.le Ab Ab Ab).eq rfl rfl rfl rfl rfl) (.ite ?_ (.ite (d.CT.le Ab Ab Ab) ((d.IW.le Ab Ab Ab).eq (c:={b.IW with mode:=6}) rfl rfl rfl rfl rfl))))))))))));exact((((g.le (n':=n+2+4) Ab (Ae _) (Ae _)).Ey ht).mark.tm (m:=18)).eq rfl rfl rfl rfl rfl)
section
variable(g:Gz b (n+4) o a)(ht:t.Sm)
def Gz.block:Gz (b.block t) n (o+1) a:=g.BH.Ey ht
def Gz.MC:Gz (b.MC t) n (o+1) a:=by
 rw[BS.MC];refine Gz.Ey ?_ ht;split;.exact g.BH.IW
 .exact g.BH
def Gz.UO:Gz (b.UO t) n (o+1) a:=(g.block ht).eq rfl rfl rfl rfl rfl
def Gz.Uw:Gz (b.Uw t) n (o+1) a:=by
 rw[BS.Uw];split;.exact g.le Ab Ab (Ae _)
 .simp only;split;.exact g.BH.Ey ht
  .exact(g.BH.Ey ht).eq rfl rfl rfl rfl rfl
end
def Gz.EU(g:Gz b n o a){ws:List Ai}:Gz (b.EU ws) n o a:=by
 rw[BS.EU];split
 .split;.exact g.GR
  .exact g
 .exact g
def Gz.uM(g:Gz b (n+4) o a)(ht:t.Sm):Gz (b.uM t) n (o+1) a:=(g.eq (c:={b with fs:=zw}) rfl rfl rfl rfl rfl).EU.block ht
def Gz.Q0(g:Gz b (n+4*a+4) o a)(ht:t.Sm):Gz (b.Q0 t) n (o+a+1) a:=by
 have g1:Gz (if b.has [aXw] then b.GR aXw [] else b) (n+4+4*a) o a:=by
  split;.exact g.GR.le Ab (Ae _) (Ae _)
  .exact g.le Ab (Ae _) (Ae _)
 exact(g1.A6.Ey ht).eq rfl rfl rfl rfl rfl
def Gz.fmt(g:Gz b (n+4*a+5) o a)(ht:t.Sm):Gz (b.fmt t) n (o+a+1) (a+1):=((g.le (n':=n+5+4*a) Ab (Ae _) (Ae _)).A6.GX ht.Aj ht.name)
def NT{l:List B5}{x:Int}:(BS.IY l x).Sublist l:=by
 rw[BS.IY];split;.exact A4 _
 .exact Dg
def Gz.Ni(g:Gz b (n+8*(4*(o+8)+10)) o a):Gz b.Ni n (o+8) (a+8):=by
 rw[BS.Ni];simp only;split;.exact g.le Ab Ab Ab
 .exact g.CI.sub Jf NT (Ae _)
def Gz.uN(g:Gz b (n+8*(4*(o+8)+10)+4*(a+8)+5) o a)(ht:t.Sm):Gz (b.uN t) n (o+a+17) (a+9):=
 (Gz.fmt ((g.le (n':=n+4*(a+8)+5+8*(4*(o+8)+10)) Ab (Ae _) (Ae _)).Ni) ht).le (Ae _) Ab (Ae _)
def Gz.uO(g:Gz b (n+8*(4*(o+a+8)+10)+8*a+100) o a)(ht:t.Sm):Gz (b.uO t) n (o+2*a+17) (a+9):=by
 have g1:Gz b.A6 (n+5+4*(a+8)+8*(4*(o+a+8)+10)) (o+a) a:=(g.le Ab (Ae _) (Ae _)).A6;have g2:Gz (if b.A6.has [aXE] then(b.A6.CI aXE).A6 else b.A6) (n+5) (o+a+8+(a+8)) (a+8):=by
  split;.exact g1.CI.A6
  .exact g1.le Ab Ab Ab
 exact(g2.GX ht.Aj ht.name).le (Ae _) Ab (Ae _)
def Gz.BW(g:Gz b (n+4*a+5) o a)(ht:t.Sm):Gz (b.BW t) n (o+a+1) (a+1):=
 (((g.le (n':=n+1+4+4*a) Ab (Ae _) (Ae _)).A6.Ey ht).mark).eq rfl rfl rfl rfl rfl
def Gz.Pv(g:Gz b (n+4) o a)(ht:t.Sm):Gz (b.Pv t) n (o+1) a:=by
 have g1:Gz (if(b.a.nd b.CF).Cs then b else b.BH) (n+4) o a:=by
  split;.exact g
  .exact g.BH
 exact(g1.Ey ht).eq rfl rfl rfl rfl rfl
def Fq.Sm.rn(ht:t.Sm)(h:z9 nm<=1000):({t with name:=nm}:Fq).Sm:=⟨h,ht.Aj,ht.data,ht.r⟩
section
variable(g:Gz b (n+4*a+4) o a)(ht:t.Sm)
def Gz.empty:Gz (b.empty t) n (o+a+1) a:=by
 have d:Gz b (n+4) o a:=g.le Ab (Ae _) (Ae _);have c:Gz b.A6 (n+4) (o+a) a:=(g.le Ab (Ae _) (Ae _)).A6;rw[BS.empty];split;.exact((d.BH.Iw ht).le (Ae _) Ab (Ae _)).eq rfl rfl rfl rfl rfl
 .split;.exact((d.Iw ht).le (Ae _) Ab (Ae _)).eq rfl rfl rfl rfl rfl
  .split;.exact(c.Iw ht).eq rfl rfl rfl rfl rfl
   .exact(c.Iw (ht.rn (by split;exact Bf;exact ht.name))).eq rfl rfl rfl rfl rfl
def Gz.raw:Gz (b.raw t) n (o+a+1) a:=by
 have d:Gz b (n+4) o a:=g.le Ab (Ae _) (Ae _);have e:Gz b.BH.A6 (n+4) (o+a) a:=(g.BH.le Ab (Ae _) (Ae _)).A6;rw[BS.raw];split;.exact((d.block ht).le (Ae _) Ab (Ae _)).eq rfl rfl rfl rfl rfl
 .split;.exact((d.DE (s:=2) ht.Aj ht.name).le (Ae _) Ab (Ae _)).eq rfl rfl rfl rfl rfl
  .split;.exact(e.eq (c:={b.BH.A6 with fs:=zw}) rfl rfl rfl rfl rfl).DE ht.Aj ht.name
   .split;.exact((d.eq (c:={b with fs:=zw}) rfl rfl rfl rfl rfl).DE ht.Aj ht.name).le (Ae _) Ab (Ae _)
    .exact(d.DE ht.Aj ht.name).le (Ae _) Ab (Ae _)
def Gz.Q1:Gz (b.Q1 t) n (o+a+1) a:=
 ((g.le (n':=n+4+4*a) Ab (Ae _) (Ae _)).A6.Ey ht).eq rfl rfl rfl rfl rfl
def Gz.Q2:Gz (b.Q2 t) n (o+a+1) a:=by
 have g1:Gz (if AU [aXR] (DB b.AI) then b.IW else b) (n+4+4*a) o a:=by
  split;.exact g.IW.le Ab (Ae _) (Ae _)
  .exact g.le Ab (Ae _) (Ae _)
 exact g1.A6.Ey ht
end
def Gz.aU(g:Gz b (n+4) o a)(ht:t.Sm):Gz (b.aU t) n (o+1) a:=by
 rw[BS.aU];refine Gz.Ey ?_ ht;split;.exact g.K5 C9
 .exact g
def Gz.MD(g:Gz b (n+4*a+4) o a)(ht:t.Sm):Gz (b.MD t) n (o+a+1) a:=by
 have g1:=(g.le (n':=n+4+4*a) Ab (Ae _) (Ae _)).A6.L9 (sp:=if t.name=aYF then 3 else 2) ht.Aj ht.name;unfold BS.MD;simp only;split;.exact g1.IW
 .exact g1
def Q4(h:b.Ij=zb):Dc b.AI 1∈b.AI:=by rw[BS.Ij] at h;simp[Bq,Cd] at h;exact Kg Bf (by have:=h.1;omega)
def Ux{x:Int}:N5 b.a (b.a.cut x):=by
 rw[Ar.cut];simp only;split;.exact .refl
 .exact N5.trans Vt Vu
def Gz.JE(g:Gz b (n+4) o a)(ht:t.Sm):Gz (b.JE t) n (o+1) a:=by
 rw[BS.JE];split;.exact g.le Ab Ab (Ae _)
 .rename_i h;have h2:b.Ij=zb:=by
   cases hs:b.Ij;.cases h (.inl hs)
   .rfl
  have hi:=g.ok.op _ (Q4 h2);have g1:Gz {b with a:=b.a.cut (Dc b.AI 1).node} (n+4) o a:=⟨g.ok.JA (Vo g.ok.ok hi.1 (by rw[hi.2.1];decide)) ZG,g.rm.JA Ux,g.AI,g.AW⟩;exact((g1.K5 (lo:=b.AI.take 1) (CB _ _)).Ey ht).eq rfl rfl rfl rfl rfl
def Gz.Nh(g:Gz b (n+1000) o a)(ht:t.Sm):Gz (b.Nh t) n o a:=by
 have g0:Gz b n o a:=g.le Ab (Ae _) (Ae _);rw[BS.Nh];split;.exact g0
 .split;.exact g.EG ht.Aj
  .split;.exact(g.eq (c:={b with fs:=zw}) rfl rfl rfl rfl rfl).EG ht.Aj
   .exact g0
def Gz.opens(g:Gz b (n+8*(4*(o+a+8)+10)+8*a+2000) o a)(ht:t.Sm):Gz (b.opens t).1 n (o+2*a+17) (a+9):=by
 have ge:∀{m},m<=n+8*(4*(o+a+8)+10)+8*a+2000->Gz b m o a:=λh=>g.le h (Ae _) (Ae _);rw[BS.opens];exact .ite (((ge Ab).Kh ht).le (Ae _) Ab Ab)
  (.ite (((ge Ab).block ht).le (Ae _) Ab Ab)
  (.ite (((ge Ab).MC ht).le (Ae _) Ab Ab)
  (.ite (((ge Ab).UO ht).le (Ae _) Ab Ab)
  (.ite (((ge Ab).fmt ht).le (Ae _) Ab Ab)
  (.ite (((ge Ab).BW ht).le (Ae _) Ab Ab)
  (.ite (((ge Ab).empty ht).le (Ae _) Ab Ab)
  (.ite (ge (m:=n) Ab |>.le (Ae _) Ab Ab)
  (.ite (((ge Ab).raw ht).le (Ae _) Ab Ab)
  (.ite (((ge Ab).aU ht).le (Ae _) Ab Ab)
  (.ite (((ge Ab).MD ht).le (Ae _) Ab Ab)
  (.ite (((ge Ab).uM ht).le (Ae _) Ab Ab)
  (.ite (((ge Ab).Q2 ht).le (Ae _) Ab Ab)
  (.ite (((ge Ab).Nh ht).le (Ae _) Ab Ab)
  (.ite (((ge Ab).JE ht).le (Ae _) Ab Ab)
  (.ite (((ge Ab).Uw ht).le (Ae _) Ab Ab)
  (.ite (((ge Ab).Q0 ht).le (Ae _) Ab Ab)
  (.ite (((ge Ab).uN ht).le (Ae _) Ab Ab)
  (.ite (((ge Ab).uO ht).le (Ae _) Ab Ab)
  (.ite (((ge Ab).Pv ht).le (Ae _) Ab Ab)
  (.ite (((ge Ab).Q1 ht).le (Ae _) Ab Ab)
  (((ge (m:=n+4+4*a) Ab).A6.Ey ht).le (Ae _) Ab Ab)))))))))))))))))))))
end
def Lu(h:Ah)(F:Nat->Prop)(f:FuncId)(args:List Aa)(r:Aa)(bi:Nat)(b':BS):Prop:=∃h' F',BK cx f args h r h'/\PB h' bi b' F'/\Du h F h' F'
abbrev Co(t:Fq)(av:Aa):List Aa:=[I t.k,zd t.name,zp t.hn,zd t.vz,zp t.hp,zd t.sys,zp t.hs,zp t.q,av,zp t.sc,zd t.data,zm za t.r]
section
variable{h h':Ah}{bi:Nat}{b b':BS}{F:Nat->Prop}{n o a:Nat}{t:Fq}{av:Aa}
def Jh:OG t.name av (Co t av):=⟨_,_,_,_,_,_,_,_,_,_,rfl⟩
def Hw(w:PB h bi b F)(g:Gz b (n+4) o a)(ht:t.Sm)(hv:AL t.Aj av):Lu h F 64 [Pt bi 0,zj (Co t av)] (I (b.M5 1)) bi (b.Ey t):=by obtain⟨d,e,c,tt,G,w,hc,rfl⟩:=w;let⟨h',o',G',r,w',x⟩:=ö (m:=n) w g.ok g.rm Jh hv ht.Aj ht.name;exact⟨h',_,r,⟨d,o',c,tt,G',w',by rw[BS.Ey];rwa[Er],rfl⟩,x⟩
def pB(w:PB h bi b F)(g:Gz b (n+4) o a)(ht:t.Sm)(hv:AL t.Aj av)(sp:Int):Lu h F 66 [Pt bi 0,zj (Co t av),I sp] (I (b.M5 sp)) bi (b.D9 t.name t.Aj sp):=by obtain⟨d,e,c,tt,G,w,hc,rfl⟩:=w;let⟨h',o',G',r,w',x⟩:=aGl (m:=n) w g.ok g.rm Jh hv ht.Aj ht.name sp;exact⟨h',_,r,⟨d,o',c,tt,G',w',by rwa[Er],rfl⟩,x⟩
def Đ(w:PB h bi b F)(g:Gz b (n+5) o a)(ht:t.Sm)(hv:AL t.Aj av):Lu h F 67 [Pt bi 0,zj (Co t av)] (I (b.a.len+1)) bi (b.GX t.name t.Aj):=by obtain⟨d,e,c,tt,G,w,hc,rfl⟩:=w;let⟨h',o',c',G',r,w',Jq,x⟩:=aKn (m:=n) w hc g.ok g.rm Jh hv ht.Aj ht.name;exact⟨h',_,r,⟨d,o',c',tt,G',w',Jq,rfl⟩,x⟩
def aGU(w:PB h bi b F)(g:Gz b (n+5) o a){r:Int}(hr: -2147483648<=r/\r<=2147483647):Lu h F 68 [Pt bi 0,zm za r] (zh []) bi (b.Xd r):=by obtain⟨e,d,c,tt,G,w,hc,rfl⟩:=w;let⟨h',G',r,w',x⟩:=aKt (m:=n) w g.ok g.rm r hr;exact⟨h',_,r,⟨e,d,c,tt,G',w',hc,rfl⟩,x⟩
def uy(w:PB h bi b F)(g:Gz b (n+1) o a){s:Ai}(hs:z9 s<=100000)(x:Int):Lu h F 69 [Pt bi 0,zd s,I x] (zh []) bi (b.HN s x):=by obtain⟨e,d,c,tt,G,w,hc,rfl⟩:=w;let⟨h',G',r,w',x⟩:=aKv (m:=n) w g.ok g.rm s hs x;exact⟨h',_,r,⟨e,d,c,tt,G',w',hc,rfl⟩,x⟩
def aV(w:PB h bi b F)(g:Gz b (n+4) o a)(ht:t.Sm)(hv:AL t.Aj av)(s:Int):Lu h F 70 [Pt bi 0,zj (Co t av),I s] (zh []) bi (b.DE t.name t.Aj s):=by obtain⟨d,e,c,tt,G,w,hc,rfl⟩:=w;let⟨h',o',G',r,w',x⟩:=aKw (m:=n) w g.ok g.rm Jh hv ht.Aj ht.name s;exact⟨h',_,r,⟨d,o',c,tt,G',w',by show B4 (b.D9 t.name t.Aj 1).AW c;rwa[Er],rfl⟩,x⟩
def J0(w:PB h bi b F)(g:Gz b n o a):Lu h F 71 [Pt bi 0] (zh []) bi b.BH:=by obtain⟨d,f,c,tt,G,w,hc,rfl⟩:=w;let⟨h',o',r,w',x⟩:=aKx w g.rm;exact⟨h',_,r,⟨d,o',c,tt,G,w',by have e:b.BH.AW=b.AW:=(by rw[BS.BH];split<;>rfl);rwa[e],rfl⟩,x⟩
def Dv(w:PB h bi b F)(g:Gz b (n+4*a) o a):Lu h F 72 [Pt bi 0] (zh []) bi b.A6:=by obtain⟨d,e,c,tt,G,w,hc,rfl⟩:=w;let⟨h',o',c',G',r,w',Jq,x⟩:=aKI (m:=n) w hc g.ok (g.rm.le (by have:=g.AW;omega));exact⟨h',_,r,⟨d,o',c',tt,G',w',Jq,rfl⟩,x⟩
def mq(w:PB h bi b F)(g:Gz b (n+1000) o a)(ht:t.Sm)(hv:AL t.Aj av)(x:Int):Lu h F 76 [Pt bi 0,zj (Co t av),I x] (zh []) bi (b.EG t.Aj x):=by obtain⟨f,d,c,tt,G,w,hc,rfl⟩:=w;obtain⟨h',G',r,w',x⟩:=aKD (m:=n) w g.ok g.rm Jh hv ht.Aj x;exact⟨h',_,r,⟨f,d,c,tt,G',w',by have e:∀y,(b.EG t.Aj y).AW=b.AW:=(λy=>by rw[BS.EG];split<;>rfl);rwa[e],rfl⟩,x⟩
def aGV(w:PB h bi b F)(g:Gz b n o a):Lu h F 77 [Pt bi 0] (zh []) bi b.CT:=by obtain⟨d,e,c,tt,G,w,hc,rfl⟩:=w;let⟨h',o',c',t',r,w',Jq,x⟩:=aKE w hc g.rm;exact⟨h',_,r,⟨d,o',c',t',G,w',Jq,rfl⟩,x⟩
def uP(w:PB h bi b F)(g:Gz b (n+8*(4*(o+8)+10)) o a)(nm:Ai):Lu h F 74 [Pt bi 0,zd nm] (zh []) bi (b.CI nm):=by obtain⟨d,e,c,tt,G,w,hc,rfl⟩:=w;let⟨h',o',c',G',r,w',Jq,x⟩:=aK0 (m:=n) w hc g.ok (g.rm.le (by have:=g.AI;omega)) nm;exact⟨h',_,r,⟨d,o',c',tt,G',w',Jq,rfl⟩,x⟩
def WE(w:PB h bi b F)(g:Gz b n o a):Lu h F 81 [Pt bi 2] (zj b.sW.row) bi b.IW:=by obtain⟨d,f,c,tt,G,w,hc,rfl⟩:=w;let⟨h',o',r,w',x⟩:=aGu w g.rm;exact⟨h',_,r,⟨d,o',c,tt,G,w',by have e:b.IW.AW=b.AW:=(by rw[z7];split<;>rfl);rwa[e],rfl⟩,x⟩
def đ(w:PB h bi b F)(g:Gz b n o a):Lu h F 79 [Pt bi 3] (zh []) bi {b with AW:=b.AW++[z4]}:=by obtain⟨e,d,c,tt,G,w,hc,rfl⟩:=w;have Sk:=g.rm.AW;let⟨fs,Gp,SI⟩:=hc;let⟨u,r2,hu⟩:=f63 (h:=h) (id:=bi) (o:=3) (l:=fs) ⟨c,w.tQ,SI⟩ (by rw[<-Gp,Ao] at Sk;omega);exact⟨_,_,r2,⟨e,d,u,tt,G,w.KC (u:=u) (l:=b.AW++[z4]),⟨_,by rw[BL,Gp];rfl,hu⟩,rfl⟩,Bd⟩
def aCq(w:PB h bi b F)(g:Gz b n o a){v:Aa}{ws:List Ai}(hw:IL ws v)(hn:z9 ws<=1000000000):∃r,Lu h F 83 [Pt bi 2,v] r bi {b with AI:=DI Cx (AU ws) b.AI}:=by obtain⟨d,e,c,tt,G,w,hc,rfl⟩:=w;have ho:=g.rm.AI;let⟨u,r2,hu⟩:=f66 w.sO Ab hw hn;exact⟨_,_,_,r2,⟨d,u,c,tt,G,w.H5 hu,hc,rfl⟩,Bd⟩
def RI(w:PB h bi b F)(g:Gz b n o a)(s:Ai):∃r,Lu h F 178 [Pt bi 2,zd s] r bi {b with AI:=DI (Di s) Cx b.AI}:=by obtain⟨d,e,c,tt,G,w,hc,rfl⟩:=w;have ho:=g.rm.AI;let⟨u,r2,hu⟩:=aGa w.sO Ab s;exact⟨_,_,_,r2,⟨d,u,c,tt,G,w.H5 hu,hc,rfl⟩,Bd⟩
def Ē(w:PB h bi b F)(g:Gz b n o a)(x:Int):∃r,Lu h F 243 [Pt bi 2,I x] r bi {b with AI:=CN x b.AI}:=by obtain⟨d,e,c,tt,G,w,hc,rfl⟩:=w;have ho:=g.rm.AI;let⟨u,r2,hu⟩:=aBK w.sO Ab x;exact⟨_,_,_,r2,⟨d,u,c,tt,G,w.H5 hu,hc,rfl⟩,Bd⟩
def PB.sA(w:PB h bi b F):rp h (Pt bi 2) b.AI:=by obtain⟨e,d,c,tt,G,w,hc,rfl⟩:=w;exact w.sA
def PB.MQ(w:PB h bi b F):∃x,A5 h zf (Pt bi 0)=zx (Pt x 0):=by obtain⟨d,e,c,tt,G,w,hc,rfl⟩:=w;exact⟨d,w.l0⟩
def PB.C4(w:PB h bi b F):A5 h zf (Pt bi 1)=zx (I b.CF)/\A5 h zf (Pt bi 4)=zx (I b.mode)/\A5 h zf (Pt bi 5)=zx (I b.RL)/\A5 h zf (Pt bi 7)=zx (I b.head)/\A5 h zf (Pt bi 8)=zx (I b.KP)/\A5 h zf (Pt bi 14)=zx (zp b.fs)/\A5 h zf (Pt bi 18)=zx (I b.sw)/\A5 h zf (Pt bi 19)=zx (zp b.stop):=by obtain⟨e,d,c,tt,G,w,hc,rfl⟩:=w;exact⟨w.ld 1,w.ld 4,w.ld 5,w.ld 7,w.ld 8,w.ld 14,w.ld 18,w.ld 19⟩
def PB.ltm(w:PB h bi b F):∃v,A5 h zf (Pt bi 6)=zx v/\Vz b.tm v:=by obtain⟨e,d,c,tt,G,w,hc,rfl⟩:=w;exact⟨tt,w.l6,w.t⟩
section
variable(w:PB h bi b F)
def aCr(g:Gz b n o a)(s:Int){v:Aa}{ws:List Ai}(hv:IL ws v)(hw:z9 ws<=1000000000):BK cx 177 [Pt bi 2,I s,v] h (zp (b.Q3 s (AU ws))) h:=
 aJB w.sA (by have:=g.rm.AI;omega) s hv hw
def aGW(g:Gz b n o a)(s:Ai):BK cx 193 [Pt bi 2,zd s] h (I (AZ (AU [s]) b.AI)) h:=
 aBH w.sA (by have:=g.rm.AI;omega) s
def aCs(i:Int):BK cx 183 [Pt bi 2,I i] h (zj (Dc b.AI i).row) h:=Xh w.sA i
def aW:BK cx 182 [Pt bi 2] h (I (z9 b.AI:Int)) h:=Vy w.sA
end
def uQ(w:PB h bi b F)(g:Gz b n o a):BK cx 186 [Pt bi 0] h (zj (DB b.AI).row) h:=by obtain⟨e,d,c,tt,G,w,hc,rfl⟩:=w;exact aGj w g.rm
def Wr(h:Ah)(F:Nat->Prop)(bi k:Nat)(v:Aa)(b':BS):Prop:=Cy h 1 (Pt bi k) v=zx (put h bi k v)/\PB (put h bi k v) bi b' F/\Du h F (put h bi k v) F
def Lv(w:PB h bi b F)(v:Int):Wr h F bi 4 (I v) {b with mode:=v}:=by obtain⟨e,d,c,tt,G,w,hc,rfl⟩:=w;exact⟨w.st (k:=4) rfl rfl,⟨e,d,c,tt,G,w.put rfl rfl w.o w.t,hc,rfl⟩,Bd⟩
def aGX(w:PB h bi b F)(v:Int):Wr h F bi 8 (I v) {b with KP:=v}:=by obtain⟨e,d,c,tt,G,w,hc,rfl⟩:=w;exact⟨w.st (k:=8) rfl rfl,⟨e,d,c,tt,G,w.put rfl rfl w.o w.t,hc,rfl⟩,Bd⟩
def ME(w:PB h bi b F)(v:Bool):Wr h F bi 14 (zp v) {b with fs:=v}:=by obtain⟨e,d,c,tt,G,w,hc,rfl⟩:=w;exact⟨w.st (k:=14) rfl rfl,⟨e,d,c,tt,G,w.put rfl rfl w.o w.t,hc,rfl⟩,Bd⟩
def ē(w:PB h bi b F)(v:Bool):Wr h F bi 17 (zp v) {b with skip:=v}:=by obtain⟨e,d,c,tt,G,w,hc,rfl⟩:=w;exact⟨w.st (k:=17) rfl rfl,⟨e,d,c,tt,G,w.put rfl rfl w.o w.t,hc,rfl⟩,Bd⟩
def aQJ(w:PB h bi b F)(v:Int):Wr h F bi 18 (I v) {b with sw:=v}:=by obtain⟨e,d,c,tt,G,w,hc,rfl⟩:=w;exact⟨w.st (k:=18) rfl rfl,⟨e,d,c,tt,G,w.put rfl rfl w.o w.t,hc,rfl⟩,Bd⟩
def aQK(w:PB h bi b F){v:Aa}{l:List Int}(hv:Vz l v):Wr h F bi 6 v {b with tm:=l}:=by obtain⟨e,d,c,tt,G,w,hc,rfl⟩:=w;exact⟨w.st (k:=6) (v0:=tt) rfl hv.1.cells,⟨e,d,c,v,G,w.oS hv,hc,rfl⟩,Bd⟩
end
def OM(c:UInt8):Bool:=decide ((9<=c.toNat/\c.toNat<=13)\/c.toNat=32)
def wf:Ai->Ai->List Ai
 |cur,[]=>if cur=[] then[] else[cur]
 |cur,c::r=>if OM c then(if cur=[] then wf [] r else cur::wf [] r) else wf (cur++[c]) r
def pC:Bool->Ai->Nat
 |_,[]=>0
 |w,c::r=>(if w&& !OM c then 1 else 0)+pC (OM c) r
def mr(b:Bool):Int:=if b then 1 else 0
def VK:∀{s cur:Ai},(wf cur s).length=(if cur=[] then 0 else 1)+pC (decide (cur=[])) s
 |[],cur=>by unfold wf pC;split<;>simp_all
 |c::r,cur=>by
  unfold wf pC;by_cases hc:OM c=zb
  .by_cases h0:cur=[];.simp[hc,h0,VK]
   .simp[hc,h0,VK];omega
  .have Jq:OM c=zw:=zv hc
   by_cases h0:cur=[];.simp[Jq,h0,VK]
   .simp[Jq,h0,VK]
def mv:∀{s cur:Ai},(wf cur s).length<=z9 s+1
 |[],cur=>by rw[wf];split<;>simp
 |c::r,cur=>by rw[wf];have h1:=mv (s:=r) (cur:=[]);have h2:=mv (s:=r) (cur:=cur++[c]);grind
def mw{c:UInt8}(k:Option Nat)(hk:k=zf){h:Ah}:∃v,AA (.VO 256 1) [.CH HF,zm .u8 (c.toNat:Int)]=zx v/\A5 h k v=zx (zm .u8 (mr (OM c))):=by
 subst hk;have key:∀n:Nat,n<256->HF[n]?=zx (zm .u8 (mr (decide ((9<=n/\n<=13)\/n=32)))):=by intro n hn;have h1:∀n,n<256->Oq[n]?=zx (mr (decide ((9<=n/\n<=13)\/n=32))):=Bx;rw[HF,Cc,h1 n hn];rfl
 have hc:=c.toNat_lt;have hi:MM (c.toNat:Int) 256=zx c.toNat:=by rw[MM];rw[Af Ab];rfl
 refine⟨.CH (HF.drop (c.toNat*1)),by simp[AA,hi,Yj],?_⟩;rw[Zh,Fu,Cu,Ge,Bw,key _ hc];rfl
def aGY{s c:Nat}(hs:s<128)(hc:c<128):∃n:Nat,n<128/\AA (.int .or) [.int .u8 (s:Int),.int .u8 (c:Int)]=zx (.int .u8 (n:Int)):=by
 have key:∀s:Nat,s<128->∀c:Nat,c<128->(match AA (.int .or) [.int .u8 (s:Int),.int .u8 (c:Int)] with|zx (.int .u8 n)=>decide (0<=n/\n<128)|_=>zw)=zb:=Bx;have h1:=key s hs c hc;split at h1;.rename_i n hv;have:=DP h1;exact⟨n.toNat,Ab,by rw[hv,E3 this.1]⟩
 .cases h1
def aGZ(w i:Bool):∃v,AA (.un .xor) [I (mr i)]=zx v/\AA (.int .and) [I (mr w),v]=zx (I (if w&& !i then 1 else 0)):=by cases w<;>cases i<;>exact⟨_,rfl,rfl⟩
def aG0(i:Bool):IntKind.i64.wrap (mr i)=mr i:=by cases i<;>rfl
def my{U:Type}(l:List U)(x y:U)(r:List U){k:Nat}(hk:k=z9 l):(l++y::r).take k++[x]++(l++y::r).drop (k+1)=l++x::r:=by simp_all
def aLO(s:Ai)(hs:s.length<=1000000)(ha:∀c∈s,c.toNat<128)(h:Ah):BK cx 409 [.str s] h (.sl 1 ((wf [] s).map Cr)) (h++[.CU]):=by
 have cF:A0=140737488355328:=rfl;have P:=mv (s:=s) (cur:=[]);obtain⟨N,hNe⟩:∃N,N=(wf [] s).length:=⟨_,rfl⟩;rw[Ad,nX,aJr];refine Dr (i:=0) (λz:Nat×Bool×Nat×Nat=>[I (z.1:Int),I (mr z.2.1),.int .u8 (z.2.2.1:Int),I (z.2.2.2:Int)]) (λz h1=>h1=h/\z.2.2.2<=s.length/\z.2.2.1<128/\z.1+pC z.2.1 (s.drop z.2.2.2)=pC zb s) (λz=>s.length-z.2.2.2) (λz h1=>h1=h/\z.2.2.1<128/\z.1=N) (0,zb,0,0) rfl ⟨rfl,AV _,Bf,AH⟩ ?_ ?_
 .rintro⟨n,w,bits,i⟩ h1 ⟨rfl,hi,hb,hn⟩;simp only at hi hb hn;rcases AP i s.length with hlt|Et
  .obtain⟨bits',Te,y⟩:=aGY hb (ha _ (AN hlt));obtain⟨v,J,H⟩:=mw (c:=s[i]) zf rfl (h:=h1);obtain⟨v2,p,d⟩:=aGZ w (OM s[i]);have O:pC true s<=s.length+1:=by have:=VK (s:=s) (cur:=[]);simp at this;omega
   rw[AG hlt,pC] at hn;have u:=Pd (a:=(n:Int)) (b:=if w&& !OM s[i] then 1 else 0) (by split<;>omega) (by split<;>omega);have t:((n:Int)+if(w&& !OM s[i])=zb then 1 else 0)=((n+if(w&& !OM s[i])=zb then 1 else 0:Nat):Int):=by split<;>simp
   simp only[abS,(Ab:(i:Int)<(s.length:Int)),FT hlt,y,J,H,Rm,aG0,p,d,u,t,By i];exact .next (_,OM s[i],bits',i+1) rfl ⟨rfl,hlt,Te,DA⟩ DA
  .simp only[abS,(Ab:¬(i:Int)<(s.length:Int))];refine .He (n,w,bits,i) rfl ⟨rfl,hb,?_⟩;rw[AT Et,pC] at hn;have:=VK (s:=s) (cur:=[]);simp at this;simp only;omega
 rintro⟨n,w,bits,i⟩ h1 ⟨rfl,hb,hn⟩;simp only at hb hn;subst hn;have y:Tm h1 1 16 [S []] (I (n:Int)) (I (n:Int))=zx (h1++[.cells (zu n [S []]).flatten],.CC h1.length 0 n 1):=by simp only[Tm];rw[Af ⟨Ab,Ab,EP,rfl⟩];simp
 have J:(zu n [S []]).flatten=zu n (S []):=by
  clear y hNe P;induction n with
  |zero=>rfl
  |succ n ih=>rw[Lx,Dt,ih];rfl
 rw[J] at y;have H:¬(128:Int)<=(bits:Int):=Ab;simp only[abS,H];refine wC y ?_;refine Dr (i:=2) (λi:Nat=>[I (i:Int)]) (λi h2=>h2=h1++[.cells (zu n (S []))]/\i<=s.length/\wf [] s=wf [] (s.drop i)) (λi=>s.length-i) (λi h2=>h2=h1++[.cells (zu n (S []))]/\i<=s.length/\wf [] s=wf [] (s.drop i)/\∀hi:i<s.length,OM s[i]=zw) 0 rfl ⟨rfl,AV _,rfl⟩ ?_ ?_
 .rintro i h2 ⟨rfl,hi,hw⟩;rcases AP i s.length with hlt|Et
  .obtain⟨v,p,d⟩:=mw (c:=s[i]) none rfl (h:=h1++[.cells (List.replicate n (S []))]);cases hsp:OM s[i] with
   |true=>rw[hsp] at d;simp only[abS,(Ab:(i:Int)<(s.length:Int)),FT hlt,p,d,mr,↓reduceIte,(Bf:(1:Int)≠0),B3,By i];rw[AG hlt,wf,hsp] at hw;exact .next (i+1) rfl ⟨rfl,hlt,by simpa using hw⟩ Ab
   |false=>rw[hsp] at d;simp only[abS,(Ab:(i:Int)<(s.length:Int)),FT hlt,p,d,mr,CA,↓reduceIte,B3];exact .He i rfl ⟨rfl,hi,hw,λ_=>hsp⟩
  .simp only[abS,(Ab:¬(i:Int)<(s.length:Int))];exact .He i rfl ⟨rfl,hi,hw,λh=>absurd h Ab⟩
 rintro i0 h2 ⟨rfl,aa,C,vr⟩;simp only[BD];refine Dr (i:=4) (λz:List Ai×Nat×Nat=>[I (z.1.length:Int),I (z.2.1:Int),I (z.2.2:Int)]) (λz h2=>h2=h1++[.cells (z.1.map Aa.str++List.replicate (n-z.1.length) (S []))]/\z.2.1<=z.2.2/\z.2.2<=s.length/\z.1++wf ((s.take z.2.2).drop z.2.1) (s.drop z.2.2)=wf [] s/\(z.2.1=z.2.2->∀hi:z.2.2<s.length,OM s[z.2.2]=false)) (λz=>s.length-z.2.2)
  (λz h2=>h2=h1++[.cells (z.1.map Aa.str++List.replicate (n-z.1.length) (S []))]/\z.2.1<=s.length/\z.1++wf (s.drop z.2.1) []=wf [] s) ([],i0,i0) rfl ⟨AH,Ae _,aa,by simp[C,PS],λ_=>vr⟩ ?_ ?_
 .rintro⟨dn,f,i⟩ h2 ⟨rfl,hf,hi,hw,hz⟩;simp only at hf hi hw hz;have vT:dn.length<=n:=by rw[hNe,<-hw,Aw];omega
  rcases AP i s.length with hlt|Et
  .obtain⟨v,p,d⟩:=mw (c:=s[i]) none rfl (h:=h1++[.cells (dn.map Aa.str++List.replicate (n-dn.length) (S []))]);rw[AG hlt] at hw;cases hsp:OM s[i] with
   |false=>
    rw[hsp] at d;simp only[abS,(Ab:(i:Int)<(s.length:Int)),FT hlt,p,d,mr,CA,↓reduceIte,By i];rw[wf,hsp] at hw;refine .next (dn,f,i+1) rfl ⟨rfl,DA,hlt,?_,λe=>by simp only at e;omega⟩ DA
    simp only
    rw[Zl hf hlt];simpa using hw
   |true=>
    rw[hsp] at d;have aBN:f<i:=by
     rcases AP f i with h|h
     .exact h
     .have:=hz Ab hlt;rw[hsp] at this;cases this
    have aQL:(s.take i).drop f≠[]:=by intro e;have:=Cj List.length e;simp at this;omega
    rw[wf,hsp] at hw;simp only[BR,aQL,EV] at hw;have m:dn.length<n:=by rw[hNe,<-hw];simp
    have u:AA (.EE 1) [.CC h1.length 0 n 1,I (dn.length:Int)]=some (Pt h1.length dn.length):=by have:=Fk (id:=h1.length) (z:=1) (n:=n) (k:= .i64) m;rwa [Ge] at this
    have hcl:(dn.map Aa.str++List.replicate (n-dn.length) (S [])).length=n:=EP;have t:Cy (h1++[.cells (dn.map Aa.str++List.replicate (n-dn.length) (S []))]) 1 (Pt h1.length dn.length) (.str ((s.take i).drop f))=some (h1++[.cells ((dn++[(s.take i).drop f]).map Aa.str++List.replicate (n-(dn++[(s.take i).drop f]).length) (S []))]):=by have F:(h1++[DG.cells (dn.map Aa.str++List.replicate (n-dn.length) (S []))])[h1.length]?=some (.cells (dn.map Aa.str++List.replicate (n-dn.length) (S []))):=AH;simp only[Cy,F,Rn,Bl];rw[Af ⟨trivial,by rw[hcl];omega⟩,BV _ _ (Ae _),Dl];have E:n-dn.length=(n-(dn.length+1))+1:=Ab;have D:(dn.map Aa.str).length=dn.length:=Ao ..;simp only[Ml,BL,Bm,Da,Aw,Bl];rw[E,Lx,my _ _ _ _ D.symm];simp
    simp only[abS,(Ab:(i:Int)<(s.length:Int)),FT hlt,p,d,mr,↓reduceIte,KD,MY (z:=0) (k:= .i64) (l:= .i64) (Ab:f<=i) hi,u,t,By dn.length,By i];refine Dr (i:=6) (λj:Nat=>[I (j:Int)]) (λj h2=>h2=h1++[.cells ((dn++[(s.take i).drop f]).map Aa.str++List.replicate (n-(dn++[(s.take i).drop f]).length) (S []))]/\i<j/\j<=s.length/\wf [] (s.drop (i+1))=wf [] (s.drop j)) (λj=>s.length-j) (λj h2=>h2=h1++[.cells ((dn++[(s.take i).drop f]).map Aa.str++List.replicate (n-(dn++[(s.take i).drop f]).length) (S []))]/\i<j/\j<=s.length/\wf [] (s.drop (i+1))=wf [] (s.drop j)/\∀hj:j<s.length,OM s[j]=false) (i+1) rfl ⟨rfl,Ab,hlt,rfl⟩ ?_ ?_
    .rintro j h2 ⟨rfl,o,hj,xG⟩;rcases AP j s.length with dU|M
     .obtain⟨v,L,A⟩:=mw (c:=s[j]) none rfl (h:=h1++[.cells ((dn++[(s.take i).drop f]).map Aa.str++List.replicate (n-(dn++[(s.take i).drop f]).length) (S []))]);cases g:OM s[j] with
      |true=>rw[g] at A;simp only[abS,(Ab:(j:Int)<(s.length:Int)),FT dU,L,A,mr,↓reduceIte,(Bf:(1:Int)≠0),B3,By j];rw[AG dU,wf,g] at xG;exact .next (j+1) rfl ⟨rfl,Ab,dU,by simpa using xG⟩ Ab
      |false=>rw[g] at A;simp only[abS,(Ab:(j:Int)<(s.length:Int)),FT dU,L,A,mr,CA,↓reduceIte,B3];exact .He j rfl ⟨rfl,o,hj,xG,λ_=>g⟩
     .simp only[abS,(Ab:¬(j:Int)<(s.length:Int))];exact .He j rfl ⟨rfl,o,hj,xG,λh=>absurd h Ab⟩
    .rintro j h2 ⟨rfl,o,hj,xG,B⟩;simp only[BD,↓reduceIte];refine .next (dn++[(s.take i).drop f],j,j) AH ⟨rfl,Ae _,hj,?_,λ_=>B⟩ DA
     simp only[PS];rw[<-xG,AK];exact hw
  .simp only[abS,(Ab:¬(i:Int)<(s.length:Int))];have hie:i=s.length:=Ab;refine .He (dn,f,i) rfl ⟨rfl,DA,?_⟩;simp only
   rw[AT Et,hie,Bt] at hw;exact hw
 .rintro⟨dn,f,i⟩ h2 ⟨rfl,hf,hw⟩;simp only at hf hw;have K:∀l:List Ai,l=wf [] s->KY (h1++[.cells (l.map Aa.str)]) (.CC h1.length 0 n 1)=some (h1++[.CU],.sl 1 ((wf [] s).map Cr)):=by
   rintro l rfl;have hr:∀r∈(wf [] s).map Cr,r.length=1:=λr hr=>by obtain⟨w,_,rfl⟩:=Bs.1 hr;rfl
   have Q:((wf [] s).map Cr).flatten=(wf [] s).map Aa.str:=by
    generalize wf [] s=q;induction q with
    |nil=>rfl
    |cons x q ih=>simp[Cr,ih]
   have:=Kr (h:=h1++[.cells ((wf [] s).map Aa.str)]) (id:=h1.length) hr (by rw[Q];simp);rw[Ao,<-hNe] at this;rw[this,BV _ _ (Ae _),Dl];rfl
  rcases AP f s.length with hlt|Et
  .have hne:s.drop f≠[]:=by intro e;have:=Cj List.length e;simp at this;omega
   rw[wf,Ac hne] at hw;have m:n=dn.length+1:=by rw[hNe,<-hw];simp
   have u:AA (.EE 1) [.CC h1.length 0 n 1,I (dn.length:Int)]=some (Pt h1.length dn.length):=by have:=Fk (id:=h1.length) (z:=1) (n:=n) (k:= .i64) (Ab:dn.length<n);rwa [Ge] at this
   have t:Cy (h1++[.cells (dn.map Aa.str++List.replicate (n-dn.length) (S []))]) 1 (Pt h1.length dn.length) (.str (s.drop f))=some (h1++[.cells ((dn++[s.drop f]).map Aa.str)]):=by have F:(h1++[DG.cells (dn.map Aa.str++List.replicate (n-dn.length) (S []))])[h1.length]?=some (.cells (dn.map Aa.str++List.replicate (n-dn.length) (S []))):=AH;have E:n-dn.length=1:=Ab;have D:(dn.map Aa.str).length=dn.length:=Ao ..;simp only[Cy,F,Rn,Bl];rw[Af ⟨trivial,EP⟩,BV _ _ (Ae _),Dl,E,show List.replicate 1 (S [])=S []::[] from rfl,my _ _ _ _ D.symm];simp
   simp only[abS,(Ab:(f:Int)<(s.length:Int)),Vh (z:=0) (k:= .i64) (Ab:f<=s.length),u,t,K _ hw]
  .rw[AT Et,wf] at hw;simp only[BR,BB] at hw;have m:n-dn.length=0:=by rw[hNe,<-hw];omega
   have G:=K _ hw;rw[m,List.replicate_zero,BB];simp only[abS,(Ab:¬(f:Int)<(s.length:Int)),G]
section
variable{h h':Ah}{bi:Nat}{b b':BS}{F:Nat->Prop}{n o a:Nat}{t:Fq}{av:Aa}
def aLP(lo hi r:Int)(h:Ah):BK cx 413 [zm za r,.CH [zm za lo],.CH [zm za hi]] h (zp (decide (lo<=r/\r<=hi))) h:=by simp only[Ad,Ya,BD];refine⟨λh1=>by simp[h1],λh1=>by simp[h1]⟩
def WG(p:Int×Int):List Aa:=[z1 (z3 413) [] [.CH [zm za p.1],.CH [zm za p.2]]]
def aLQ{L:List (Int×Int)}(g:z9 L<=1000)(r:Int)(h:Ah):BK cx 412 [zm za r,.CH [.sl 1 (L.map WG)]] h (zp (L.any λp=>decide (p.1<=r/\r<=p.2))) h:=by
 have hv:AX 1 (L.map WG) (.sl 1 (L.map WG)):= .mk;have e:=AX.CK hv;simp only[Ad,nY,BD,e];refine Bj (λn:Nat=>[ff,I (n:Int)]) (λn h1=>n<=z9 L/\h1=h/\L.any (λp=>decide (p.1<=r/\r<=p.2))=(L.drop n).any λp=>decide (p.1<=r/\r<=p.2)) (λn=>z9 L-n) 0 rfl ⟨AV _,rfl,rfl⟩ ?_;rintro n h1 ⟨hn,rfl,ha⟩;obtain hlt|Et:=AP n (z9 L)
 .have c:=AX.BG (k:= z5) hv hlt;have f:∀x y:Int,Dw (z1 (z3 413) [] [.CH [zm za x],.CH [zm za y]]) [zm za r]=zx (413,[zm za r,.CH [zm za x],.CH [zm za y]]):=λ_ _=>rfl;have d:=aLP L[n].1 L[n].2 r h1;rw[AG hlt,J5] at ha;rw[WG] at c;simp only[abS,(Ab:(n:Int)<(z9 L:Int)),c,f,d,By n];refine⟨λh2=>?_,λh2=>?_⟩;.rw[ha];simp[h2]
  .rw[Al h2,GM] at ha;exact z6 (n+1) rfl ⟨hlt,rfl,ha⟩ Ab
 .rw[AT Et] at ha;simp only[abS,(Ab:¬(n:Int)<(z9 L:Int)),ha,vK]
def aQN(r:Int):JN cx 232 [zm za r] (zp (decide (aR r))):=by
 have d:∀(lo hi:Int) (h:Ah),BK cx 360 [zm za lo,zm za hi] h (z1 (z3 413) [] [.CH [zm za lo],.CH [zm za hi]]) h:=λlo hi h=>by simp[Ad,Ud,BD]
 have g:∀(v:Aa) (h:Ah),v.cells=[v]->BK cx 359 [v] h (z1 (z3 412) [] [.CH [v]]) h:=λv h hv=>by simp[Ad,X4,BD,hv]
 have e:=aLQ (L:=[(9,10),(12,13),(32,32)]) Bf r [];have c:AA (.Dk 1) [z1 (z3 413) [] [.CH [zm za 9],.CH [zm za 10]],z1 (z3 413) [] [.CH [zm za 12],.CH [zm za 13]],z1 (z3 413) [] [.CH [zm za 32],.CH [zm za 32]]]=zx (.sl 1 ([((9:Int),(10:Int)),(12,13),(32,32)].map WG)):=rfl;have f:∀v:Aa,Dw (z1 (z3 412) [] [v]) [zm za r]=zx (412,[zm za r,v]):=λ_=>rfl;have r2:=g (.sl 1 ([((9:Int),(10:Int)),(12,13),(32,32)].map WG)) [] rfl;have e0:decide (aR r)=([((9:Int),(10:Int)),(12,13),(32,32)].any λp=>decide (p.1<=r/\r<=p.2)):=by
  have c:aR r↔((9<=r/\r<=10)\/(12<=r/\r<=13)\/(32<=r/\r<=32)):=by rw[aR];omega
  simp only[J5,vK,L7,<-Bool.decide_or,Ds];exact c
 simp only[e0,LY,XT,BD,d 9 10 [],d 12 13 [],d 32 32 [],c,r2,f,e]
structure Pw(l:Ai)(ws:List Ai):Prop where
 len:z9 l<=1000000
 asc:∀c∈l,c.toNat<128
 wf:wf [] l=ws
section
variable{l:Ai}{ws:List Ai}
def WH(h:(decide (z9 l<=1000000)&&l.all (λc=>decide (c.toNat<128))&&decide (wf [] l=ws))=zb):Pw l ws:=by simp[Bq,Cd,Ei] at h;exact⟨h.1.1,h.1.2,h.2⟩
def Pw.few(w:Pw l ws):z9 ws<=1000001:=by have:=mv (s:=l) (cur:=[]);have:=w.len;rw[<-w.wf];omega
def aCt(w:Pw l ws)(h:Ah):BK cx 367 [zd l] h (.sl 1 (ws.map Cr)) (h++[.CU]):=by have c:=aLO l w.len w.asc h;rw[w.wf] at c;simp[Ad,nC,BD,c]
def bl(w:Pw l ws)(s:Ai):JN cx 242 [zd s,zd l] (zp (decide (s∈ws))):=by have c:BK cx 367 _ [] _ [.CU]:=aCt w [];have r2:=aBG (Cw (ws:=ws)) (by have:=w.few;omega) s [DG.CU];simp[LY,XV,BD,c,r2]
def RR(w:Pw l ws)(t:Fq)(av:Aa)(h:Ah):BK cx 113 [zj (Co t av),zd l] h (zp (decide (t.st ws))) h:=by
 simp[Ad,jZ,BD,(bl w t.name).BM rfl rfl];refine⟨λh1=>?_,λh1=>?_⟩;.congr 2;unfold Fq.st;simp[h1]
 .unfold Fq.st;simp[h1]
def aCu(w:Pw l ws)(t:Fq)(av:Aa)(h:Ah):BK cx 116 [zj (Co t av),zd l] h (zp (decide (t.en ws))) h:=by
 simp[Ad,j1,BD,(bl w t.name).BM rfl rfl];refine⟨λh1=>?_,λh1=>?_⟩;.congr 2;unfold Fq.en;simp[h1]
 .unfold Fq.en;simp[h1]
def aLR(w:Pw l ws)(t:Fq)(av:Aa)(h:Ah):BK cx 112 [zj (Co t av),zd l] h (zp (decide (t.odd ws))) h:=by
 simp[Ad,jY,BD,(bl w t.name).BM rfl rfl];refine⟨λh1=>?_,λh1=>?_⟩;.congr 2;unfold Fq.odd;simp[h1]
 .unfold Fq.odd;simp[h1]
end
def aLS(t:Fq)(av:Aa)(h:Ah):BK cx 106 [zj (Co t av)] h (zp (decide t.Lg)) h:=by
 simp[Ad,jW,BD,(aQN t.r).BM rfl rfl];refine⟨λh1=>?_,λh1=>?_⟩;.congr 2;unfold Fq.Lg;simp[h1]
 .unfold Fq.Lg;simp[h1]
section
variable(w:PB h bi b F)
def Ĕ(t:Fq)(av:Aa):BK cx 104 [Pt bi 0,zj (Co t av)] h (zp (decide t.ok)) h:=by
 let⟨x,l0⟩:=w.MQ;simp only[Ad,jV,abS,l0];refine⟨λh1=>?_,λh1=>?_⟩;.congr 2;unfold Fq.ok;simp[h1]
 .unfold Fq.ok;simp[h1]
def aQP(m:Int):Lu h F 108 [Pt bi 0,I m] tt bi (b.again m).1:=by let⟨d,w1,c⟩:=Lv w m;refine⟨_,_,?_,w1,c⟩;simp[Ad,jX,BD,d]
def pD(g:Gz b n o a):BK cx 123 [Pt bi 0] h (zp (decide b.Rs)) h:=by simp[Ad,j3,BD,aGW w g AO];rfl
def bm(g:Gz b (n+4) o a)(ht:t.Sm)(hv:AL t.Aj av):Lu h F 115 [Pt bi 0,zj (Co t av)] (zh []) bi (b.Iw t):=by let⟨h1,i,f,w1,d⟩:=Hw w g ht hv;let⟨h2,F2,r2,e,c⟩:=WE w1 (g.Ey ht);refine⟨h2,F2,?_,e,d.trans c⟩;simp[Ad,j0,BD,f,r2]
end
end
def uR:Pw aYj ď:=WH Bx
def uS:Pw aXM WD:=WH Bx
def ĕ:Pw aX7 sNS:=WH Bx
def uT:Pw aXv [aXv]:=WH Bx
def Uy:Pw aXY [aXY]:=WH Bx
def fV:Pw aXT [aXT]:=WH Bx
def aX:Pw aXZ [aXZ]:=WH Bx
def Uz:Pw aXS [aXS]:=WH Bx
def MF:Pw aXs [aXs]:=WH Bx
section
variable{h h':Ah}{bi:Nat}{b b':BS}{F:Nat->Prop}{n o a:Nat}{t:Fq}{av:Aa}
def aQQ(w:PB h bi b F)(g:Gz b (n+1004) o a)(ht:t.Sm)(hv:AL t.Aj av)(hh:t.st [aXv]->Lu h F 33 [Pt bi 0,zj (Co t av)] ff bi (b.QZ t)):Lu h F 30 [Pt bi 0,zj (Co t av)] (zp (b.Kh t).2) bi (b.Kh t).1:=by
 have C4:=w.C4;rw[BS.Kh];by_cases P:¬t.ok;.rw[Af P];have f:=Ĕ w t av;rw[Al P] at f;refine⟨_,_,?_,w,.refl⟩;simp only[Ad,IN,abS,↓reduceIte,f]
 rw[Ac P];have f:=Ĕ w t av;rw[As (Sw.1 P)] at f;by_cases l:t.k=1;.rw[Af l];refine⟨_,_,?_,w,.refl⟩;simp only[Ad,IN,abS,↓reduceIte,f,AE l]
 rw[Ac l];by_cases O:t.st [aXY];.rw[Af O];have i:=RR Uy t av h;rw[As O] at i;refine⟨_,_,?_,w,.refl⟩;simp only[Ad,IN,abS,↓reduceIte,f,i,l]
 rw[Ac O];have i:=RR Uy t av h;rw[Al O] at i;by_cases N:t.odd ď;.rw[Af N];have m:=aLR uR t av h;rw[As N] at m;refine⟨_,_,?_,w,.refl⟩;simp only[Ad,IN,abS,↓reduceIte,f,i,m,l]
 rw[Ac N];have m:=aLR uR t av h;rw[Al N] at m;by_cases M:t.Lg;.rw[Af M];have p:=aLS t av h;rw[As M] at p;let⟨h1,C,d,w1,c⟩:=aGU w (g.dn (n':=n+5) Ab) ht.r;refine⟨_,_,?_,w1,c⟩;simp only[Ad,IN,abS,↓reduceIte,f,i,m,p,l,d]
 rw[Ac M];have p:=aLS t av h;rw[Al M] at p;by_cases y:t.k=4;.rw[Af y];let⟨h1,C,d,w1,c⟩:=uy (s:=t.data) w (g.dn (n':=n+1) Ab) (by have:=ht.data;omega) 0;refine⟨_,_,?_,w1,c⟩;simp only[Ad,IN,abS,↓reduceIte,f,i,m,p,l,AE y,d]
 rw[Ac y];by_cases H:t.st [aXv];.rw[Af H];have v:=RR uT t av h;rw[As H] at v;let⟨h1,C,d,w1,c⟩:=hh H;refine⟨_,_,?_,w1,c⟩;simp only[Ad,IN,abS,↓reduceIte,f,i,m,p,v,l,y,d]
 rw[Ac H];have v:=RR uT t av h;rw[Al H] at v;by_cases L:t.st WD;.rw[Af L];have z:=RR uS t av h;rw[As L] at z;let⟨h1,C,d,w1,c⟩:=bm w (g.dn (n':=n+4) Ab) ht hv;refine⟨_,_,?_,w1,c⟩;simp only[Ad,IN,abS,↓reduceIte,f,i,m,p,v,z,l,y,d]
 rw[Ac L];have z:=RR uS t av h;rw[Al L] at z;by_cases K:t.st [aXT];.rw[Af K];have A:=RR fV t av h;rw[As K] at A;let⟨h1,C,d,w1,c⟩:=aV w (g.dn (n':=n+4) Ab) ht hv 2;refine⟨_,_,?_,w1,c⟩;simp only[Ad,IN,abS,↓reduceIte,f,i,m,p,v,z,A,l,y,d]
 rw[Ac K];have A:=RR fV t av h;rw[Al K] at A;by_cases J:t.st sNS;.rw[Af J];have D:=RR ĕ t av h;rw[As J] at D;let⟨h1,C,d,w1,c⟩:=aV w (g.dn (n':=n+4) Ab) ht hv 3;refine⟨_,_,?_,w1,c⟩;simp only[Ad,IN,abS,↓reduceIte,f,i,m,p,v,z,A,D,l,y,d]
 rw[Ac J];have D:=RR ĕ t av h;rw[Al J] at D;by_cases KT:t.st [aXZ];.rw[Af KT];have e:=RR aX t av h;rw[As KT] at e;let⟨h1,C,d,w1,c⟩:=aV w (g.dn (n':=n+4) Ab) ht hv 4;refine⟨_,_,?_,w1,c⟩;simp only[Ad,IN,abS,↓reduceIte,f,i,m,p,v,z,A,D,e,l,y,d]
 rw[Ac KT];have e:=RR aX t av h;rw[Al KT] at e;by_cases Lf:t.st [aXS];.rw[Af Lf];have j:=RR Uz t av h;rw[As Lf] at j;let⟨h1,C,d,w1,c⟩:=Hw w (g.dn (n':=n+4) Ab) ht hv;let⟨Q,G,E⟩:=Lv w1 5;refine⟨_,_,?_,G,c.trans E⟩;simp only[Ad,IN,abS,↓reduceIte,f,i,m,p,v,z,A,D,e,j,l,y,d,Q]
 rw[Ac Lf];have j:=RR Uz t av h;rw[Al Lf] at j;by_cases L5:t.en [aXY];.rw[Af L5];have q:=aCu Uy t av h;rw[As L5] at q;let⟨h1,C,d,w1,c⟩:=WE w (g.dn (n':=n) Ab);let⟨Q,G,E⟩:=Lv w1 6;refine⟨_,_,?_,G,c.trans E⟩;simp only[Ad,IN,abS,↓reduceIte,f,i,m,p,v,z,A,D,e,j,q,l,y,d,Q]
 rw[Ac L5];have q:=aCu Uy t av h;rw[Al L5] at q;by_cases Mq:t.st [AO]
 .rw[Af Mq];have x:=RR MF t av h;rw[As Mq] at x;let⟨h1,C,d,w1,c⟩:=Hw w (g.dn (n':=n+4) Ab) ht hv;have g1:=(g.dn (n':=n+2+4) Ab).Ey ht;let⟨h2,F2,r2,G,E⟩:=đ w1 g1;let⟨s3,X,V⟩:=ME G zw;let⟨Z,S,U⟩:=Lv X 18;let⟨tv,l5,R⟩:=S.ltm;have tb:(b.Ey t).tm.length<=900000000:=by have:=g1.rm.tm;omega
  let⟨u,r5,hu⟩:=aGr R.1 DA (put (put h2 bi 14 ff) bi 4 (I 18));have e6:=hu.1.yD 18 (by simp only;have:A0=140737488355328:=rfl;omega);have em:AA (.Dk 1) [I 18]=zx (.sl 1 [Cb 18]):=rfl;have Ja:Vz ((b.Ey t).tm++[(18:Int)]) (.sl 1 (((b.Ey t).tm++[(18:Int)]).map Cb)):= .qa;let⟨Y,W,T⟩:=aQK S Ja;refine⟨_,_,?_,W,(((c.trans E).trans V).trans U).trans T⟩;simp only[Ad,IN,abS,↓reduceIte,f,i,m,p,v,z,A,D,e,j,q,x,l,y,d,r2,s3,Z,l5,r5,em,e6,Y]
 rw[Ac Mq];have x:=RR MF t av h;rw[Al Mq] at x;by_cases Nb:t.en [AO];.rw[Af Nb];have B:=aCu MF t av h;rw[As Nb] at B;let⟨h1,C,d,w1,c⟩:=aGV w (g.dn (n':=n) Ab);refine⟨_,_,?_,w1,c⟩;simp only[Ad,IN,abS,↓reduceIte,f,i,m,p,v,z,A,D,e,j,q,x,B,l,y,d]
 rw[Ac Nb];have B:=aCu MF t av h;rw[Al Nb] at B;let⟨h1,C,d,w1,c⟩:=WE w (g.dn (n':=n) Ab);let⟨h2,F2,r2,G,E⟩:=aQP w1 6;refine⟨_,_,?_,G,c.trans E⟩;simp only[Ad,IN,abS,↓reduceIte,f,i,m,p,v,z,A,D,e,j,q,x,B,l,y,d,r2,BS.again]
end
def Ez(h:Ah)(F:Nat->Prop)(f:FuncId)(args:List Aa)(r:Aa)(bi:Nat)(b':BS):Prop:=∃h' F',BK cx f args h r h'/\RB h' bi b' F'/\Du h F h' F'
def Ė(h:Ah)(F:Nat->Prop)(bi k:Nat)(v:Aa)(b':BS):Prop:=Cy h 1 (z8 (zx (bi,k))) v=zx (put h bi k v)/\RB (put h bi k v) bi b' F/\Du h F (put h bi k v) F
section
variable{h h':Ah}{bi:Nat}{b b':BS}{F:Nat->Prop}{n o a:Nat}{t:Fq}{av:Aa}
def H9(w:RB h bi b F)(g:Gz b (n+4) o a)(hm:Nm b.a)(ht:t.Sm)(hv:AL t.Aj av):Ez h F 85 [z8 (zx (bi,0)),zj (Co t av)] (zm z5 (b.a.len+1)) bi (b.Ey t):=by obtain⟨d,e,c,tt,G,w,hc,rfl⟩:=w;let⟨h',o',G',r,w',x⟩:=um (m:=n) w g.ok g.rm hm Jh hv ht.Aj ht.name;exact⟨h',_,r,⟨d,o',c,tt,G',w',by rw[BS.Ey];rwa[Er],rfl⟩,x⟩
def uU(w:RB h bi b F)(g:Gz b n o a):Ez h F 135 [z8 (zx (bi,0))] (zh []) bi b.IW:=by
 obtain⟨l,d,c,tt,G,w,hc,rfl⟩:=w;have ho:=g.rm.AI;have ld:A5 h zf (z8 (zx (bi,2)))=zx d:=w.ld 2;let⟨u,i,j,hu⟩:=aBL (h:=h) w.o Ab;have e:b.IW={b with AI:=Kd b.AI ((z9 b.AI:Int)-1)}:=by
  unfold z7 Kd;split
  .have h1:max 1 ((z9 b.AI:Int)-1).toNat=1:=by omega
   rw[h1,AF Ab]
  .have h1:max 1 ((z9 b.AI:Int)-1).toNat=z9 b.AI-1:=by omega
   rw[h1]
 have w1:=w.HY (u:=i);have f:=w1.H5 hu;refine⟨_,_,?_,⟨l,u,c,tt,G,by rwa[e],by rwa[e],rfl⟩,w.C3.trans Bd⟩;simp[Ad,jm,BD,ld,j,w1.st (k:=2) (v0:=d) rfl (zn hu)]
def Nj(w:RB h bi b F)(v:Int):Ė h F bi 4 (zm z5 v) {b with mode:=v}:=by obtain⟨e,d,c,tt,G,w,hc,rfl⟩:=w;exact⟨w.st (k:=4) rfl rfl,⟨e,d,c,tt,G,w.put rfl rfl w.o w.t,hc,rfl⟩,Bd⟩
def RB.C4(w:RB h bi b F):A5 h zf (z8 (zx (bi,1)))=zx (zm z5 b.CF)/\A5 h zf (z8 (zx (bi,4)))=zx (zm z5 b.mode)/\A5 h zf (z8 (zx (bi,5)))=zx (zm z5 b.RL)/\A5 h zf (z8 (zx (bi,7)))=zx (zm z5 b.head):=by obtain⟨e,d,c,tt,G,w,hc,rfl⟩:=w;exact⟨w.ld 1,w.ld 4,w.ld 5,w.ld 7⟩
end
end Go.Am
end
section
end
