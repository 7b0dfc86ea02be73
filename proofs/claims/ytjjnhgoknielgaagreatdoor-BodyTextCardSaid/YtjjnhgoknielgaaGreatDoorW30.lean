/- Lemmas -/
import Derived.Test.YtjjnhgoknielgaaGreatDoorW29
set_option linter.all false
noncomputable section
set_option maxRecDepth 100000
section
namespace Go.Am
open Go
section
variable{P:List Item}{q:Int}{T:List Int}{m k j n:Nat}{b c d:BS}{nm x:Ah}{l:List Item}{at_:List Bj}{t:Dr}{sp h:Int}{i:Item}
def Cm.eq(o:Cm b)(h1:c.a=b.a)(h2:c.BM=b.BM)(h3:c.Au=b.Au)(e:c.A3=b.A3)(r:c.Ha=b.Ha)(p:c.D4=b.D4)(g:c.Lh=b.Lh)(f:c.tm=b.tm):Cm c:=
 ⟨o.ok.of_eq h1 h2 h3 e,by rw[h1,e];exact o.ac,by rw[h1,r];exact o.Ż,by rw[p];exact o.fo,by rw[g];exact o.fr,by rw[f];exact o.x_⟩
def Rd(cm:Cm c)(hd:4<=c.mode->Mn c)(a:c.mode≠8)(sh:Shp c.mode c.Au c.tm):Ep c:=⟨cm,hd,λ_=>sh,λh=>absurd h a⟩
def Ep.kp(o:Ep b)(h:Kp b c)(ho:c.Au=b.Au):Ep c:=by
 obtain⟨f,r2,v,e,g,u,s,r⟩:=DQ.1 h.rest;refine⟨o.cm.go h,λp=>(o.hd (by rw[<-e];exact p)).go h,λa=>?_,λa=>?_⟩;.rw[e] at a;rw[e,ho,f];exact o.sh a
 .rw[e] at a;rw[ho,f,g];exact o.Zu a
def aCg(o:EC b):EC b.NP:=by have hd:=o.BM;have hk:=o.ok.Tg _ hd.1;exact o.I5 (iN o.ok hd.1 ⟨hk.k,hk.Bi,hk.elem,hk.nm,hk.dt,hk.data,λh=>absurd hd.2 h,hk.sp,hk.Ô,hk.Dx,hk.QW,hk.OW,hk.root,hk.af⟩ rfl rfl rfl ⟨(o.ok.BM _ hd.1).1,(o.ok.BM _ hd.1).2,o.ok.YT _ hd.1⟩ rfl rfl λa=>a) (PL rfl rfl rfl)
def œ(o:EC b):EC (b.Nw t):=by
 have hd:=o.BM;have hx:sJ {kind:=3,BM:=b.BM,name:=t.name,Lg:=t.Lg,sys:=t.sys}:=by constructor<;>simp[Dx,GP,dQ]
 have RO:=PI o.ok hx (.inr ⟨AB,hd⟩) rfl rfl rfl rfl (λh=>absurd h.1 (Az:¬(3:Int)=4));exact o.I5 (N5 RO) (PK.trans Hs)
def m_(o:Cm b):Kp b b.NP:=⟨aCg o.ok,o.ac.le (PL rfl rfl rfl) o.ok.ac,PL rfl rfl rfl,rfl⟩
def rM(o:Cm b):Kp b (b.Nw t):=⟨œ o.ok,o.ac.le (PK.trans Hs) o.ok.ac,PK.trans Hs,rfl⟩
def fD:GQ []:=⟨Az,λa ha=>by cases ha⟩
def xG(hn:nm.length<=1000)(hp:bK c+1<=bK b)(h1:c.a=(b.Co nm [] 1).a)(h2:c.Au=(b.Co nm [] 1).Au)(h3:c.A3=(b.Co nm [] 1).A3)(e:c.tm=(b.Co nm [] 1).tm):Tr b c:=by refine⟨?_,by rw[h3,H6];exact Ad _,λm r=>((Q0 (m:=m) (sp:=1) (nm:=nm) (r.le Ac) fD hn)).eq h1 h2 h3 e⟩;rw[h2,EM,An,AQ];omega
def ZN(ho:c.Au.length+bK c<=b.Au.length+bK b)(h1:c.a=b.a)(h2:c.Au.Sublist b.Au)(h3:c.A3.Sublist b.A3)(e:c.tm.length<=b.tm.length):Tr b c:=
 ⟨ho,h3.length_le,λm r=>(r.le Ac).sub h1 h2 h3 e⟩
def xH{qk:Dr->Bool}(o:Ep b)(hm:b.mode=1):NX t b (b.Gq qk t):=by
 have hs:b.Au=[]/\b.tm=[]:=by rcases o.sh Ac with h|h|h|h|h|h<;>first|exact h.2|omega
 have e:∀c:BS,Cm c->c.Au=[]->c.tm=[]->c.mode=2->Ep c:=λc cm h1 h2 h3=>Rd cm (λh=>Ac) Ac (.inl ⟨.inr h3,h1,h2⟩);unfold BS.Gq;refine NX.ite (λ_=> .B0 o) λ_=>NX.ite (λ_=> .B0 o) λ_=>NX.ite (λ_=> .B0 (o.kp (Jr o.cm) rfl)) λ_=>NX.ite (λ_=>?_) λ_=>?_
 .refine .inr ⟨e _ ((o.cm.go (m_ o.cm)).eq rfl rfl rfl rfl rfl rfl rfl rfl) hs.1 hs.2 rfl,λ_=>⟨?_,?_⟩⟩;.unfold MF;have:(b.NP.again 2).1.mode=2:=rfl;rw[this,hm];simp[fC]
  .refine⟨?_,Ad _,λm r=>((r.le Ac).I5 (A':=b.NP.a) (T1 rfl rfl)).eq rfl rfl rfl rfl⟩;have:(b.NP.again 2).1.mode=2:=rfl;have g:(b.NP.again 2).1.Au=b.Au:=rfl;unfold bK;rw[this,hm,g];simp
 .simp only
  have f:=rM (t:=t) o.cm;refine .B0 (e _ ?_ ?_ ?_ rfl)
  .split;.exact((o.cm.go f).go (m_ (o.cm.go f))).eq rfl rfl rfl rfl rfl rfl rfl rfl
   .exact(o.cm.go f).eq rfl rfl rfl rfl rfl rfl rfl rfl
  .split<;>exact hs.1
  .split<;>exact hs.2
def aCh(h:nm=aXM):AH [IW] (b.HA nm at_ 1)=true:=by rw[KZ,h];decide
def bL(o:Ep b)(hm:b.mode=2):NX t b (b.DY t):=by
 have hs:b.Au=[]/\b.tm=[]:=by rcases o.sh Ac with h|h|h|h|h|h<;>first|exact h.2|omega
 have e:∀nm at_,nm=aXM->∀c:BS,c.a=(b.Co nm at_ 1).a->c.BM=(b.Co nm at_ 1).BM->c.Au=(b.Co nm at_ 1).Au->c.A3=(b.Co nm at_ 1).A3->c.Ha=(b.Co nm at_ 1).Ha->c.D4=(b.Co nm at_ 1).D4->c.Lh=(b.Co nm at_ 1).Lh->c.tm=(b.Co nm at_ 1).tm->c.mode=3->Ep c:=by
  intro nm at_ hn c h1 h2 h3 u s r p f g;have k:=GS (nm:=nm) (l:=at_) (sp:=1) o.cm;refine Rd ((o.cm.go k).eq h1 h2 h3 u s r p f) (λh=>Ac) Ac (.inr (.inl ⟨g,⟨_,?_,aCh (b:=b) (at_:=at_) hn⟩,?_⟩));.rw[h3,EM,hs.1];rfl
  .rw[f,(DQ.1 k.rest).1];exact hs.2
 unfold BS.DY;refine NX.ite (λ_=> .B0 o) λ_=>NX.ite (λ_=> .B0 o) λ_=>NX.ite (λ_=> .B0 o) λ_=>NX.ite (λ_=> .B0 o) λ_=>NX.ite (λ_=> .B0 (o.kp (Jr o.cm) rfl)) λ_=>NX.ite (λh=>?_) λ_=>?_;.exact .B0 (e t.name t.As (by simpa using h.2) _ rfl rfl rfl rfl rfl rfl rfl rfl rfl)
 .refine .inr ⟨e aXM [] rfl _ rfl rfl rfl rfl rfl rfl rfl rfl rfl,λ_=>⟨?_,?_⟩⟩;.unfold MF;have:((b.Cr (Gj aXM)).again 3).1.mode=3:=rfl;rw[this,hm];simp[fC]
  .refine xG (nm:=aXM) Az ?_ rfl rfl rfl rfl;have:((b.Cr (Gj aXM)).again 3).1.mode=3:=rfl;unfold bK;rw[this,hm];simp
def O7:(b.I3 t).Au=b.Au:=by unfold BS.I3;split;rfl;exact eS
def Rf(o:Cm b):Kp b (b.I3 t):=by unfold BS.I3;split;exact .refl o;exact Zz o
def bM(o:Ep b)(hm:b.mode=3):NX t b (b.DZ t):=by
 obtain⟨hs,kE⟩:(∃h,b.Au=[h]/\AH [IW] h=true)/\b.tm=[]:=by rcases o.sh Ac with h|h|h|h|h|h<;>first|exact h.2|omega
 obtain⟨p,z,y⟩:=hs;have f:∀nm at_,nm=I2->∀c:BS,c.a=(b.Co nm at_ 1).a->c.BM=(b.Co nm at_ 1).BM->c.Au=(b.Co nm at_ 1).Au->c.A3=(b.Co nm at_ 1).A3->c.Ha=(b.Co nm at_ 1).Ha->c.D4=(b.Co nm at_ 1).D4->c.Lh=(b.Co nm at_ 1).Lh->c.tm=(b.Co nm at_ 1).tm->c.mode=4->c.head=b.Li 1->Ep c:=by
  intro nm at_ hn c h1 h2 h3 w v u s g r eA;have k:=GS (nm:=nm) (l:=at_) (sp:=1) o.cm;have hw:=O4 (b:=b) (nm:=nm) (l:=at_);have e:c.head=b.a.len+1:=by rw[eA];unfold BS.Li;rw[Ae KG]
  refine Rd ((o.cm.go k).eq h1 h2 h3 w v u s g) (λ_=>?_) Ac (.inr (.inr (.inl ⟨r,⟨p,b.HA nm at_ 1,?_,y,?_⟩,?_⟩)));.exact⟨by rw[h1,e];exact hw.2.2.1,by rw[h1,e];exact hw.2.2.2,by rw[h1,e];exact hw.2.1,by rw[h1,e,hw.1];exact hn⟩
  .rw[h3,EM,z];rfl
  .rw[KZ,hn];decide
  .rw[g,(DQ.1 k.rest).1];exact kE
 unfold BS.DZ;refine NX.ite (λ_=> .B0 o) λ_=>NX.ite (λ_=> .B0 o) λ_=>NX.ite (λ_=> .B0 o) λ_=>NX.ite (λ_=> .B0 o) λ_=>NX.ite (λ_=> .B0 (o.kp (Jr o.cm) rfl)) λ_=>NX.ite (λ_=> .B0 (o.kp (Rf o.cm) O7)) λ_=>NX.ite (λh=>?_) λ_=>?_;.exact .B0 (f t.name t.As (by simpa using h.2) _ rfl rfl rfl rfl rfl rfl rfl rfl rfl rfl)
 .refine .inr ⟨f I2 [] rfl _ rfl rfl rfl rfl rfl rfl rfl rfl rfl rfl,λ_=>⟨?_,?_⟩⟩;.unfold MF;have:(BS.again {b.Cr (Gj aXR) with head:=b.Li 1} 4).1.mode=4:=rfl;rw[this,hm];simp[fC]
  .refine xG (nm:=aXR) Az ?_ rfl rfl rfl rfl;have:(BS.again {b.Cr (Gj aXR) with head:=b.Li 1} 4).1.mode=4:=rfl;unfold bK;rw[this,hm];simp
def Ŕ(o:Cm b){s:Int}:Cm (b.Dj nm at_ s):=(o.go (GS (nm:=nm) (l:=at_) (sp:=1) o)).eq rfl rfl rfl rfl rfl rfl rfl rfl
def ŕ(o:Mn b){s:Int}:Mn (b.Dj nm at_ s):=o.le (c:=b.Dj nm at_ s) PO (by have:=(DQ.1 (L3 (b:=b) (nm:=nm) (l:=at_) (sp:=1))).2.2.1;exact this)
def lR{s:Int}:(b.Dj nm at_ s).Au=b.Au++[b.HA nm at_ 1]:=EM
def ZO{s:Int}:(b.Dj nm at_ s).tm=b.tm/\(b.Dj nm at_ s).IV=b.mode:=by have:=DQ.1 (L3 (b:=b) (nm:=nm) (l:=at_) (sp:=1));exact⟨this.1,this.2.2.2.1⟩
def lS(cm:Cm b)(hd:Mn b)(h1:nm∈bJ)(e:4<=b.mode)(a:b.mode≠8)(sh:Shp b.mode b.Au b.tm){s:Int}:Ep (b.Dj nm at_ s):=by
 refine⟨Ŕ cm,λ_=>ŕ hd,λh=>absurd rfl h,λ_=>⟨b.Au,b.HA nm at_ 1,lR,?_,?_,?_,?_⟩⟩;.rw[KZ];simpa using h1
 .rw[ZO.2];exact e
 .rw[ZO.2];exact a
 .rw[ZO.1,ZO.2];exact sh
def Dp.Zu(o:Dp P q T b)(hm:q=7\/(q=18/\T≠[]))(h1:nm∈bJ){s:Int}:Ep (b.Dj nm at_ s):=
 lS o.cm o.hd h1 (by rw[o.md];omega) (by rw[o.md];omega) ((Js o hm).sh (by rw[o.md];omega))
def BS.Nz(b:BS)(t:Dr):BS:={b.Cr t with A3:=(b.Cr t).A3++[Cn.zero],fs:=false,mode:=18,tm:=(b.Cr t).tm++[18]}
def xI(o:Cm b):Cm (b.Nz t):=by
 have a:=o.go (GS (nm:=t.name) (l:=t.As) (sp:=1) o);refine⟨(kX a.ok).of_eq rfl rfl rfl rfl,?_,a.Ż,a.fo,a.fr,?_⟩
 .intro e he;rcases Ao.1 he with h|h
  .exact a.ac e h
  .simp at h;subst h;exact .inl rfl
 .intro m hm;rcases Ao.1 hm with h|h
  .exact a.x_ m h
  .simp at h;exact .inr h
def xJ(o:Mn b):Mn (b.Nz t):=o.le (c:=b.Nz t) PO (by have:=(DQ.1 (L3 (b:=b) (nm:=t.name) (l:=t.As) (sp:=1))).2.2.1;exact this)
def xK:(b.Nz t).tm=b.tm++[18]:=by have:=(DQ.1 (L3 (b:=b) (nm:=t.name) (l:=t.As) (sp:=1))).1;show(b.Co t.name t.As 1).tm++[18]=_;rw[this]
def Us:(b.Nz t).Au=b.Au++[b.HA t.name t.As 1]:=EM
def xL(h:t.name=AW):Em (b.HA t.name t.As 1)=true:=by rw[Em,KZ,h];decide
def Ŗ{P:List Item}(p:Pf P)(hc:P.countP Em=1):DL P P 1:=by
 have e:P.filter AS=P:=Hw.2 λi hi=>p.sp i hi;refine⟨p,Bl,λi hi=>?_,by rw[e];exact hc,?_⟩;.rw[e,FA] at hi;cases hi
 .rw[e];intro A x C a hx;have:=p.not (ws:=[wP]) Az x (by rw[a];simp);rw[this] at hx;cases hx
def aCi(cm:Cm b)(hd:Mn b)(hn:t.name=AW)(hs:(∃h,b.Au=[h]/\AH [IW] h=true)\/(∃h d,b.Au=[h,d]/\AH [IW] h=true/\AH [I2] d=true))(o:b.tm=[]):Ep (b.Nz t):=by
 have u:(b.Nz t).tm=[18]:=by rw[xK,o];rfl
 have g:∀{i:Item} {w:Ah},AH [w] i=true->w≠AW->Em i=false:=λh hw=>Zy (by simpa using C3 hw) h;have f:=xL (b:=b) hn;have key:∀P,Pf P->P.countP Em=1->(b.Nz t).Au=P->Ep (b.Nz t):=λP p hc e=>Js (P:=P) (q:=18) (T:=[18]) ⟨xI cm,xJ hd,by rw[e];exact Ŗ p hc,rfl,u⟩ (.inr ⟨rfl,AB⟩)
 rcases hs with⟨h,r,a⟩|⟨h,d,r,a,s⟩
 .refine key _ (.Ox h _ a f) ?_ (by rw[Us,r];rfl);simp[g a Az,f]
 .refine key _ (.head h d _ a s f) ?_ (by rw[Us,r];rfl);simp[g a Az,g s Az,f]
def Dp.Ox(o:Dp P q T b)(hn:t.name=AW):Ep (b.Nz t):=by refine Js (P:=P) (q:=18) (T:=T++[18]) ⟨xI o.cm,xJ o.hd,?_,rfl,by rw[xK,o.tme]⟩ (.inr ⟨rfl,AB⟩);rw[Us,An,AQ];exact o.d.aLz (xL hn)
def Mr{Q:BS×Bool->Prop}(hk:t.ok)(hs:t.st Ge)(h1:t.name∈V6->Q (b.GR t,false))(h2:t.name∈bJ->∀s,(s=2\/s=3\/s=4)->Q (b.Dj t.name t.As s,false))(h3:t.name=AW->Q (b.Nz t,false)):Q (b.C2 t):=by
 obtain⟨a,hn⟩:=hs;have a1:¬t.k=1:=Ac;have a2:¬t.st [aXR]:=λh=>by have:=h.2;simp at this;rw[this] at hn;exact absurd hn Az
 have a3:∀ws,¬t.bD ws:=λws h=>by have:=h.1;omega
 have a4:¬t.E8:=λh=>by have:=h.1;omega
 have a5:¬t.k=4:=Ac;have a6:¬t.st [aXM]:=λh=>by have:=h.2;simp at this;rw[this] at hn;exact absurd hn Az
 unfold BS.C2;rw[Aa (by simpa using hk),Aa a1,Aa a2,Aa (a3 _),Aa a4,Aa a5,Aa a6];by_cases o:t.st V6;.rw[Ae o];exact h1 o.2
 rw[Aa o];by_cases g:t.st [aX7];.rw[Ae g];exact h2 (by have:=g.2;simp at this;rw[this];decide) 2 Ac
 rw[Aa g];by_cases f:t.st sNS;.rw[Ae f];exact h2 (by have:=f.2;simp only[sNS,AF,Ej,Mv] at this;rcases this with h|h<;>rw[h]<;>decide) 3 Ac
 rw[Aa f];by_cases e:t.st [aYq];.rw[Ae e];exact h2 (by have:=e.2;simp at this;rw[this];decide) 4 Ac
 rw[Aa e];have p:t.name=AW:=by have b1:t.name∉V6:=λh=>o ⟨a,h⟩;have b2:t.name∉[aX7]:=λh=>g ⟨a,h⟩;have b3:t.name∉sNS:=λh=>f ⟨a,h⟩;have b4:t.name∉[aYq]:=λh=>e ⟨a,h⟩;simp only[V6,sNS,Ge,AF,Ej,Mv,P5] at b1 b2 b3 b4 hn;rcases hn with h|h|h|h|h|h|h|h|h|h<;>first|exact h|exact absurd h b1.1|exact absurd h b1.2.1|exact absurd h b1.2.2.1|exact absurd h b1.2.2.2.1|exact absurd h b1.2.2.2.2|exact absurd h b2|exact absurd h b3.1|exact absurd h b3.2|exact absurd h b4
 have u:¬t.st [aXY]:=λh=>by have:=h.2;rw[p] at this;exact absurd this Az
 have r:¬t.en [aXR]:=λh=>by have:=h.1;omega
 rw[Aa u,Aa r,Ae ⟨a,by rw[p];simp⟩];exact h3 p
def O8(hk:t.ok)(hs:t.en [AW]):b.C2 t=(b.Dn,false):=by
 obtain⟨e,hn⟩:=hs;have a:t.name=AW:=by simpa using hn
 have a1:¬t.k=1:=Ac;have a2:∀ws,¬t.st ws:=λws h=>by have:=h.1;omega
 have a3:¬t.bD lq:=λh=>h.2 (by rw[a];decide);have a4:¬t.E8:=λh=>by have:=h.1;omega
 have a5:¬t.k=4:=Ac;have a6:¬t.en [aXR]:=λh=>by have:=h.2;rw[a] at this;exact absurd this Az
 unfold BS.C2;rw[Aa (by simpa using hk),Aa a1,Aa (a2 _),Aa a3,Aa a4,Aa a5,Aa (a2 _),Aa (a2 _),Aa (a2 _),Aa (a2 _),Aa (a2 _),Aa (a2 _),Aa a6,Aa (a2 _),Ae ⟨e,hn⟩]
def Wd(o:Dp P q T b)(hm:q=7\/(q=18/\T≠[]))(hk:t.ok)(hs:t.st Ge):NX t b (b.C2 t):=
 Mr hk hs (λ_=> .B0 (Js o.fO hm)) (λh s _=> .B0 (o.Zu hm h)) λh=> .B0 (o.Ox h)
def nc(o:Dp P b.mode b.tm b)(hm:b.mode=7\/(b.mode=18/\b.tm≠[])):Ep b.Dn:=by
 unfold BS.Dn;split;.exact Js o hm
 .rename_i h;have h1:0<=AD (AH [AW]) b.Au:=Ac;rw[Nv (λ_=>Q6) h1];exact(lQ o h1 rfl).1
def bN{i:Item}{w:Ah}(h:AH [w] i=true)(hw:w≠AW):Em i=false:=Zy (by simpa using C3 hw) h
def Xs(h:∀i∈b.Au,Em i=false):b.Dn=b:=by
 refine vd ?_;rcases BZ (q:=Em) (l:=b.Au) with⟨h1,_⟩|⟨k,hk,_,h2,_⟩
 .show AD Em b.Au<0;omega
 .rw[h _ (AG hk)] at h2;cases h2
def xM(o:Ep b)(hm:b.mode=4):NX t b (b.C2 t):=by
 obtain⟨⟨e,hd,a,r,u⟩,kE⟩:(∃h d,b.Au=[h,d]/\AH [IW] h=true/\AH [I2] d=true)/\b.tm=[]:=by rcases o.sh Ac with h|h|h|h|h|h<;>first|exact h.2|omega
 have p:=o.hd Ac;have S4:b.FB={b with Au:=[e]}:=by unfold BS.FB;rw[a];rfl
 have f:Ep {b.FB with mode:=6}:=by rw[S4];exact Rd ((o.cm.go (sL o.cm (ol:=[e]) (by rw[a];simp))).eq rfl rfl rfl rfl rfl rfl rfl rfl) (λ_=>p.le .refl rfl) AB (.inr (.inr (.inr (.inr (.inl ⟨rfl,⟨e,rfl,r⟩,kE⟩)))))
 by_cases hk:t.ok;rotate_left;.unfold BS.C2;rw[Ae hk];exact .B0 o
 by_cases v:t.st Ge;.refine Mr hk v (λ_=> .B0 (o.kp (Uk o.cm) (Rb (by rw[a];simp)))) (λh s _=> .B0 (lS o.cm p h Ac Ac (o.sh Ac))) λh=> .B0 (aCi o.cm p h (.inr ⟨e,hd,a,r,u⟩) kE)
 have g:∀ws:List Ah,(∀w∈ws,w∈Ge)->¬t.st ws:=λws hw h=>v ⟨h.1,hw _ h.2⟩;unfold BS.C2;rw[Aa (by simpa using hk)];refine NX.ite (λ_=> .B0 o) λ_=>NX.ite (λ_=> .B0 o) λ_=>NX.ite (λ_=> .B0 o) λ_=>NX.ite (λ_=> .B0 (o.kp (P1 o.cm) rfl)) λ_=>NX.ite (λ_=> .B0 (o.kp (Jr o.cm) rfl)) λ_=>NX.ite (λ_=> .B0 (o.kp (Rf o.cm) O7)) λ_=>?_;rw[Aa (g _ Az),Aa (g _ Az),Aa (g _ Az),Aa (g _ Az)];refine NX.ite (λh=>?_) λ_=>NX.ite (λ_=> .B0 f) λ_=>?_
 .have k:=GS (nm:=t.name) (l:=t.As) (sp:=1) o.cm;refine .B0 (Rd ((o.cm.go k).eq rfl rfl rfl rfl rfl rfl rfl rfl) (λ_=>(p.go k).le .refl rfl) AB (.inr (.inr (.inr (.inl ⟨rfl,⟨e,hd,b.HA t.name t.As 1,?_,r,u,?_⟩,?_⟩)))));.show(b.Co t.name t.As 1).Au=_;rw[EM,a];rfl
  .rw[KZ];simpa using h.2
  .show(b.Co t.name t.As 1).tm=_;rw[(DQ.1 k.rest).1];exact kE
 .rw[Aa (g _ Az)];refine NX.ite (λ_=>?_) λ_=> .inr ⟨f,λ_=>⟨?_,?_⟩⟩
  .rw[Xs (λi hi=>by
    rw[a] at hi;simp at hi;rcases hi with rfl|rfl
    .exact bN r Az
    .exact bN u Az)]
   exact .B0 o
  .unfold MF;have:(b.FB.again 6).1.mode=6:=rfl;rw[this,hm];simp[fC]
  .have y:(b.FB.again 6).1={b with Au:=[e],mode:=6}:=by unfold BS.again;rw[S4]
   rw[y];refine ZN ?_ rfl (by rw[a];simp) (BR _) (Ad _);unfold bK;rw[hm,a];simp
def bO(o:Ep b)(hm:b.mode=5):NX t b (b.FG t):=by
 obtain⟨⟨f,hd,x,e,z,y,F⟩,kE⟩:(∃h d x,b.Au=[h,d,x]/\AH [IW] h=true/\AH [I2] d=true/\AH [aHQ] x=true)/\b.tm=[]:=by rcases o.sh Ac with h|h|h|h|h|h<;>first|exact h.2|omega
 have p:=o.hd Ac;have S4:b.FB={b with Au:=[f,hd]}:=by unfold BS.FB;rw[e];rfl
 have a:Ep {b.FB with mode:=4}:=by rw[S4];exact Rd ((o.cm.go (sL o.cm (ol:=[f,hd]) (by rw[e];simp))).eq rfl rfl rfl rfl rfl rfl rfl rfl) (λ_=>p.le .refl rfl) AB (.inr (.inr (.inl ⟨rfl,⟨f,hd,rfl,z,y⟩,kE⟩)))
 unfold BS.FG;by_cases hk:t.ok;rotate_left;.rw[Ae hk];exact .B0 o
 rw[Aa (by simpa using hk)];refine NX.ite (λ_=> .B0 o) λg=>NX.ite (λ_=> .B0 o) λB=>NX.ite (λ_=> .B0 o) λA=>NX.ite (λ_=> .B0 (o.kp (Rf o.cm) O7)) λD=>NX.ite (λ_=> .B0 a) λ_=>NX.ite (λh=>?_) λr=>NX.ite (λh=>?_) λC=>NX.ite (λh=>?_) λ_=> .inr ⟨a,λ_=>⟨?_,?_⟩⟩;.unfold BS.C2;have E:=h.1;rw[Aa (by simpa using hk),Aa g,Aa (λh=>by have:=h.1;omega),Aa (λh=>by have:=h.1;omega),Ae h];exact .B0 (o.kp (P1 o.cm) rfl)
 .unfold BS.C2;rw[Aa (by simpa using hk),Aa g,Aa (λh=>by have:=h.1;omega),Aa (λh=>by have:=h.1;omega),Aa r,Ae h];exact .B0 (o.kp (Jr o.cm) rfl)
 .refine Mr hk ⟨h.1,by have key:∀w∈ĵ,w∈Ge:=Az;exact key _ h.2⟩ (λ_=> .B0 (o.kp (Uk o.cm) (Rb (by rw[e];simp)))) (λh s _=> .B0 (lS o.cm p h Ac Ac (o.sh Ac))) λu=>?_;have:=h.2;rw[u] at this;exact absurd this Az
 .unfold MF;have:(b.FB.again 4).1.mode=4:=rfl;rw[this,hm];simp[fC]
 .have v:(b.FB.again 4).1={b with Au:=[f,hd],mode:=4}:=by unfold BS.again;rw[S4]
  rw[v];refine ZN ?_ rfl (by rw[e];simp) (BR _) (Ad _);unfold bK;rw[hm,e];simp
def vt(o:Ep b)(hm:b.mode=8):NX t b (b.LL t):=by
 obtain⟨X,r,e,A,z,p,sh⟩:=o.Zu hm;have u:X≠[]:=by
  rintro rfl;rcases sh with h|h|h|h|h|h
  .omega
  .omega
  .obtain⟨_,_,h2,_⟩:=h.2.1;cases h2
  .obtain⟨_,_,_,h2,_⟩:=h.2.1;cases h2
  .obtain⟨_,h2,_⟩:=h.2.1;cases h2
  .obtain⟨P,g⟩:=h.2;have v:=g.len;have y:=g.pf.len;rw[AZ] at v;omega
 have s:=CB.2 u;have S4:b.FB={b with Au:=X}:=by unfold BS.FB;rw[Aa (by rw[e];simp;omega)];rw[e];simp
 have a:Ep {b.FB with mode:=b.IV}:=by rw[S4];exact Rd ((o.cm.go (sL o.cm (ol:=X) (by rw[e];simp))).eq rfl rfl rfl rfl rfl rfl rfl rfl) (λ_=>(o.hd Ac).le .refl rfl) p sh
 unfold BS.LL;refine NX.ite (λ_=> .B0 o) λ_=>NX.ite (λ_=> .B0 (o.kp (P1 o.cm) rfl)) λ_=>NX.ite (λh=> .inr ⟨a,λ_=>⟨?_,?_⟩⟩) λ_=>NX.ite (λ_=> .B0 a) λ_=> .B0 o
 .unfold MF;have f:(b.FB.again b.IV).1.mode=b.IV:=rfl;have w:(b.FB.again b.IV).1.tm=b.tm:=by show b.FB.tm=_;rw[S4]
  rw[f,w,Ae h,Ae h,Aa p,Ae hm];omega
 .have f:(b.FB.again b.IV).1={b with Au:=X,mode:=b.IV}:=by unfold BS.again;rw[S4]
  rw[f];refine ZN ?_ rfl (by rw[e];simp) (BR _) (Ad _);unfold bK;rw[hm,e];simp only[An,AQ];(repeat' split)<;>omega
def Ep.lT(o:Ep b)(hm:b.mode=6):Ny b:=by
 obtain⟨⟨f,e,g⟩,kE⟩:(∃h,b.Au=[h]/\AH [IW] h=true)/\b.tm=[]:=by rcases o.sh Ac with h|h|h|h|h|h<;>first|exact h.2|omega
 have a:=o.hd Ac;refine⟨a.has,a.kind,a.Bd,a.name,λh=>?_⟩;rw[e] at h;simp at h;have h1:=o.cm.ok.op f (by rw[e];simp);rw[<-h,a.name] at h1;have h2:=(B9.1 g).2;simp at h2;have h3:=h1.2.2.2;rw[h2] at h3;exact absurd h3 Az
def ng(o:Cm b)(a:Ny b):Cm {b with Au:=b.Au++[BS.DF b.head]}:=by have RO:=o.ok.aA5 (i:=BS.DF b.head) (k:=b.Au.length) ⟨a.has,a.kind,a.Bd,a.name⟩ a.no;rw[Bl,FA] at RO;exact⟨RO,o.ac,o.Ż,o.fo,o.fr,o.x_⟩
def ZP(f:Item)(n:Int)(hn:f.node≠n)(r:List Item)(hr:∀i∈r,i.node≠n):Cg n ([f,BS.DF n]++r)=f::r:=by
 have e:AD (Bt n) ([f,BS.DF n]++r)=1:=by have:=HG (q:=Bt n) (a:=[f]) (i:=BS.DF n) (c:=r) (Ak rfl) (λx hx=>Ap (hr x hx));simpa using this
 unfold Cg;rw[e,Aa Az];rfl
def Rg{Q:BS×Bool->Prop}(o:Ep b)(hm:b.mode=6)(hk:t.ok)(hs:t.st Ge)
  (h1:t.name∈V6->∀c:BS,Ep c->c.Au=b.Au->c.mode=6->c.tm=b.tm->c.A3=b.A3->Q (c,false))
  (h2:t.name∈bJ->∀c:BS,Ep c->(∃x,c.Au=b.Au++[x])->c.mode=8->c.IV=6->c.sw≠0->c.tm=b.tm->Q (c,false))
  (h3:t.name=AW->∀c:BS,Ep c->(∃x,Em x=true/\c.Au=b.Au++[x])->c.mode=18->c.tm=b.tm++[18]->c.A3=b.A3++[Cn.zero]->Q (c,false)):Q (b.Fe t):=by
 have I:=o.lT hm;obtain⟨⟨h0,A,N⟩,kE⟩:(∃h,b.Au=[h]/\AH [IW] h=true)/\b.tm=[]:=by rcases o.sh Ac with h|h|h|h|h|h<;>first|exact h.2|omega
 have W:=o.hd Ac;have w:h0.node≠b.head:=λe=>I.no (by rw[A];simp[e]);obtain⟨b1,QJ⟩:∃b1:BS,b1={b with Au:=b.Au++[BS.DF b.head]}:=⟨_,rfl⟩;have key:b.Fe t=({(b1.C2 t).1 with Au:=Cg b.head (b1.C2 t).1.Au},(b1.C2 t).2):=by rw[QJ];rfl
 have p:Cm b1:=by rw[QJ];exact ng o.cm I
 have xg:b1.Au=[h0,BS.DF b.head]:=by rw[QJ];show b.Au++[BS.DF b.head]=_;rw[A];rfl
 have G:b1.mode=6:=by rw[QJ];exact hm
 have F:b1.tm=b.tm:=by rw[QJ]
 have a1:b1.A3=b.A3:=by rw[QJ]
 have O:b1.a=b.a:=by rw[QJ]
 have Z:b1.head=b.head:=by rw[QJ]
 have z:Mn b1:=W.le (by rw[O];exact .refl) Z;have hlen:b.head≠b1.a.len+1:=by rw[O];exact Oo I.has
 have v:=o.sh Ac;rw[hm] at v;rw[key];clear key QJ;refine Mr (b:=b1) (Q:=λr=>Q ({r.1 with Au:=Cg b.head r.1.Au},r.2)) hk hs (λV=>?_) (λL s U=>?_) λK=>?_
 .have k:Kp b1 (b1.GR t):=Uk (nm:=t.name) (l:=t.As) p;have D:(b1.GR t).Au=[h0,BS.DF b.head]:=(Rb (b:=b1) (nm:=t.name) (l:=t.As) (by rw[xg];simp)).trans xg;have u:Cg b.head (b1.GR t).Au=b.Au:=by rw[D,A];exact ZP h0 b.head w [] (λi hi=>by cases hi)
  obtain⟨J,_,R,H,_⟩:=DQ.1 k.rest;have S:(b1.GR t).A3=b.A3:=by
   have Y:∀c:BS,c.FB.A3=c.A3:=λc=>by unfold BS.FB;split<;>rfl
   have X:(b1.Cr t).A3=b1.A3:=H6;show(b1.Cr t).FB.A3=_;rw[Y,X,a1]
  generalize b1.GR t=c at*;have f:=p.go k;refine h1 V _ (Rd (f.go (sL f (EL (n:=b.head)))) (λ_=>(z.le (c:=c) k.le R).le .refl rfl) ?_ ?_) u (H.trans G) (J.trans F) S;.show c.mode≠8;rw[H,G];decide
  .show Shp c.mode (Cg b.head c.Au) c.tm;rw[H,G,u,J,F];exact v
 .have f:=Ŕ (nm:=t.name) (at_:=t.As) (s:=s) p;have D:(b1.Dj t.name t.As s).Au=[h0,BS.DF b.head]++[b1.HA t.name t.As 1]:=by rw[lR,xg]
  have u:Cg b.head (b1.Dj t.name t.As s).Au=b.Au++[b1.HA t.name t.As 1]:=by rw[D,A];exact ZP h0 b.head w _ (λi hi=>by simp only[Bv] at hi;rw[hi,Uh];exact C3 hlen)
  have C:=ZO (b:=b1) (nm:=t.name) (at_:=t.As) (s:=s);have B:=C.1.trans F;have g:=C.2.trans G;have UC:=ŕ (nm:=t.name) (at_:=t.As) (s:=s) z;have M:(b1.Dj t.name t.As s).mode=8:=rfl;have es:(b1.Dj t.name t.As s).sw=s:=rfl;generalize b1.Dj t.name t.As s=c at*;refine h2 L _ ⟨f.go (sL f (EL (n:=b.head))),λ_=>UC.le .refl rfl,λh=>absurd M h,λ_=>⟨b.Au,b1.HA t.name t.As 1,u,?_,?_,?_,?_⟩⟩ ⟨_,u⟩ M g (by show c.sw≠0;rw[es];omega) B;.rw[KZ];simpa using L
  .show 4<=c.IV;rw[g];decide
  .show c.IV≠8;rw[g];decide
  .show Shp c.IV b.Au c.tm;rw[g,B];exact v
 .have f:=xI (t:=t) p;have D:(b1.Nz t).Au=[h0,BS.DF b.head]++[b1.HA t.name t.As 1]:=by rw[Us,xg]
  have u:Cg b.head (b1.Nz t).Au=b.Au++[b1.HA t.name t.As 1]:=by rw[D,A];exact ZP h0 b.head w _ (λi hi=>by simp only[Bv] at hi;rw[hi,Uh];exact C3 hlen)
  have C:(b1.Nz t).tm=b.tm++[18]:=by rw[xK,F]
  have y:=xL (b:=b1) K;have ea:(b1.Nz t).A3=b.A3++[Cn.zero]:=by show(b1.Cr t).A3++[Cn.zero]=_;have:(b1.Cr t).A3=b1.A3:=H6;rw[this,a1]
  have UC:=xJ (t:=t) z;have E:(b1.Nz t).mode=18:=rfl;generalize b1.Nz t=c at*;refine h3 K _ (Js (P:=[h0,b1.HA t.name t.As 1]) (q:=18) (T:=[18]) ⟨f.go (sL f (EL (n:=b.head))),UC.le .refl rfl,?_,E,?_⟩ (.inr ⟨rfl,AB⟩)) ⟨_,y,u⟩ E C ea;.show DL _ (Cg b.head c.Au) _;rw[u,A];exact Ŗ (.Ox h0 _ N y) (by simp[bN N Az,y])
  .show c.tm=_;rw[C,kE];rfl
def aCj{h o:Item}(h1:AH [IW] h=true)(h2:AH [Ii] o=true):DL [h,o] [h,o] 0:=by
 have p:=Pf.body h o h1 h2;have e:[h,o].filter AS=[h,o]:=Hw.2 λi hi=>p.sp i hi;refine⟨p,rfl,λi hi=>?_,by rw[e];simp[bN h1 Az,bN h2 Az],?_⟩;.rw[e] at hi;cases hi
 .rw[e];intro A x C a hx;have:=p.not (ws:=[wP]) Az x (by rw[a];simp);rw[this] at hx;cases hx
def lU(o:Ep b)(hm:b.mode=6):NX t b (b.Ex t):=by
 obtain⟨⟨h0,r,p⟩,kE⟩:(∃h,b.Au=[h]/\AH [IW] h=true)/\b.tm=[]:=by rcases o.sh Ac with h|h|h|h|h|h<;>first|exact h.2|omega
 have s:=o.hd Ac;have e:∀nm at_,nm=Ii->∀c:BS,c.a=(b.Co nm at_ 1).a->c.BM=(b.Co nm at_ 1).BM->c.Au=(b.Co nm at_ 1).Au->c.A3=(b.Co nm at_ 1).A3->c.Ha=(b.Co nm at_ 1).Ha->c.D4=(b.Co nm at_ 1).D4->c.Lh=(b.Co nm at_ 1).Lh->c.tm=(b.Co nm at_ 1).tm->c.mode=7->c.head=(b.Co nm at_ 1).head->Ep c:=by
  intro nm at_ hn c h1 h2 h3 z y w v f u eA;have k:=GS (nm:=nm) (l:=at_) (sp:=1) o.cm;have A:c.tm=[]:=by rw[f,(DQ.1 k.rest).1];exact kE
  refine Js (P:=[h0,b.HA nm at_ 1]) (q:=7) (T:=[]) ⟨(o.cm.go k).eq h1 h2 h3 z y w v f,(s.go k).le (by rw[h1];exact .refl) eA,?_,u,A⟩ (.inl rfl);rw[h3,EM,r];exact aCj p (by rw[KZ,hn];decide)
 unfold BS.Ex;by_cases hk:t.ok;rotate_left;.rw[Ae hk];exact .B0 o
 rw[Aa (by simpa using hk)];refine NX.ite (λ_=> .B0 o) λ_=>NX.ite (λ_=> .B0 o) λ_=>NX.ite (λ_=> .B0 o) λ_=>NX.ite (λ_=> .B0 (o.kp (P1 o.cm) rfl)) λ_=>NX.ite (λ_=> .B0 (o.kp (Jr o.cm) rfl)) λ_=>NX.ite (λ_=> .B0 (o.kp (Rf o.cm) O7)) λ_=>NX.ite (λh=>?_) λ_=>NX.ite (λ_=> .inl rfl) λ_=>NX.ite (λh=>?_) λ_=>NX.ite (λh=>?_) λ_=>?_;.exact .B0 (e t.name t.As (by simpa using h.2) _ rfl rfl rfl rfl rfl rfl rfl rfl rfl rfl)
 .exact Rg o hm hk h (λ_ c i _ _ _ _=> .B0 i) (λ_ c i _ _ _ _ _=> .B0 i) λ_ c i _ _ _ _=> .B0 i
 .rw[O8 hk h,Xs (λi hi=>by rw[r] at hi;simp at hi;rw[hi];exact bN p Az)]
  exact .B0 o
 .refine .inr ⟨e Ii [] rfl _ rfl rfl rfl rfl rfl rfl rfl rfl rfl rfl,λ_=>?_⟩;have g:((b.Cr (Gj aXS)).again 7).1.mode=7:=rfl;have k:=GS (nm:=aXS) (l:=[]) (sp:=1) o.cm;have B:((b.Cr (Gj aXS)).again 7).1.tm=b.tm:=(DQ.1 k.rest).1;refine⟨?_,xG (nm:=aXS) Az ?_ rfl rfl rfl rfl⟩;.unfold MF;rw[g,B,hm,kE];simp[fC]
  .unfold bK;rw[g,hm];simp
def nh(o:Ep b):NX t b ({b with stop:=true},false):= .B0 (o.kp (kpE o.cm rfl rfl rfl rfl) rfl)
def Dp.HL(o:Dp P q T b):Dp P q T (b.HL t):=by
 unfold BS.HL;split;.exact o
 .simp only
  split;.exact o.AM.Jk
  .exact(o.AM.Jk).eq rfl rfl rfl rfl
def fE(o:Dp P b.mode b.tm b)(hm:b.mode=7\/(b.mode=18/\b.tm≠[]))(hk:t.k=6)(hne:b.tm≠[]):NX t b b.MI:=by
 unfold BS.MI;split
 .rename_i h;unfold BS.Ox at h;rw[PH];obtain⟨c,hc⟩:∃c:BS,c=BS.JR {b with Au:=Hc b.Au (AD Em b.Au),A3:=FF b.A3,tm:=b.tm.dropLast}:=⟨_,rfl⟩;obtain⟨h1,h2,h3,u,p,w⟩:=lQ o h hc;have A:c.a=b.a:=by rw[hc];rfl
  have v:c.Au=Hc b.Au (AD Em b.Au):=by rw[hc];rfl
  have z:c.A3=FF b.A3:=by rw[hc];rfl
  have y:c.tm=b.tm.dropLast:=by rw[hc];rfl
  have Wt:c=BS.JR {b with Au:=Hc b.Au (AD (AH [AW]) b.Au),A3:=FF b.A3,tm:=b.tm.dropLast}:=hc;rw[<-Wt];clear hc Wt;have s:bK b=1:=by
   unfold bK;rcases hm with f|f
   .rw[f];simp
   .rw[f.1];simp
  refine .inr ⟨h1,λ_=>⟨?_,ZN ?_ A (by rw[v];exact Nq) (by rw[z];exact Ch _ _) (by rw[y];simp)⟩⟩
  .unfold MF;have hb:fC b.mode b.tm.length=b.tm.length+3:=by
    have:=CB.2 hne;unfold fC;rcases hm with p|p
    .rw[p];simp;omega
    .rw[p.1];simp;omega
   simp only[Ae hk,Aa u,Aa (Ac:¬b.mode=8),hb];exact h3
  .have:bK c<=bK b+1:=by
    have e:=h1.sh u;rw[s];have r:c.Au≠[]:=by
     intro g;rw[v] at g;unfold Hc at g;rw[List.take_eq_nil_iff] at g;rcases g with g|g
     .omega
     .have eA:=o.d.len;have Te:=o.d.pf.len;rw[g,AZ] at eA;omega
    unfold bK;rcases e with e|e|e|e|e|e
    .exact absurd e.2.1 r
    .exact absurd e.1 w
    .rw[e.1];simp
    .rw[e.1];simp
    .rw[e.1];simp
    .rcases e.1 with f|f
     .rw[f];simp
     .rw[f.1];simp
   show c.Au.length+bK c<=_;omega
 .exact nh (Js o hm)
def bP(o:Ep b)(hm:b.mode=18):NX t b (b.D0 t):=by
 obtain⟨hne,P,d⟩:=o.dp (.inr hm);have hne:=hne hm;have a:b.mode=7\/(b.mode=18/\b.tm≠[]):= .inr ⟨hm,hne⟩;unfold BS.D0;by_cases hk:t.ok;rotate_left;.rw[Ae hk];exact .B0 o
 rw[Aa (by simpa using hk)];have e:∀m,Gv m=false->NX t b (b.E9 m):=λm h=> .inl h;refine NX.ite (λ_=> .B0 (Js d.HL a)) λ_=>NX.ite (λ_=> .B0 (Js d.DD a)) λ_=>NX.ite (λ_=> .B0 o) λ_=>NX.ite (λh=>Wd d a hk h) λ_=>NX.ite (λh=>?_) λ_=>NX.ite (λ_=>e _ rfl) λ_=>NX.ite (λ_=>e _ rfl) λ_=>NX.ite (λ_=>e _ rfl) λ_=>NX.ite (λ_=>e _ rfl) λ_=>NX.ite (λh=>?_) λ_=>NX.ite (λ_=> .B0 o) λ_=>?_;.rw[O8 hk h];exact .B0 (nc d a)
 .have s:=CB.2 hne;have p:(b.E9 7).1.mode=7:=rfl;have g:(b.E9 7).1.tm=b.tm.dropLast++[7]:=rfl;have r:(b.tm.dropLast++[(7:Int)]).length=b.tm.length:=EE;refine .inr ⟨Js (P:=P) (q:=7) (T:=b.tm.dropLast++[7]) ⟨⟨d.cm.ok.of_eq rfl rfl rfl rfl,d.cm.ac,d.cm.Ż,d.cm.fo,d.cm.fr,λm hm=>?_⟩,d.hd.le .refl rfl,by rw[r];exact d.d,p,g⟩ (.inl rfl),λ_=>?_⟩
  .rw[g] at hm;rcases Ao.1 hm with h1|h1
   .exact d.cm.x_ m ((aIK _).subset h1)
   .simp at h1;exact .inl h1
  .refine⟨?_,ZN ?_ rfl (BR _) (BR _) (by rw[g,r];exact Ad _)⟩;.unfold MF;rw[p,hm];simp[fC,(Ac:¬t.k=6)]
   .show b.Au.length+bK (b.E9 7).1<=_;unfold bK;rw[p,hm];simp
 .have f:t.k=6:=by have:=hk.1;have:=hk.2;omega
  exact fE d a f hne
structure Rh(nm:Ah):Prop where
 b:nm∉bF
 t:nm≠AW
def I4{ws:List Ah}(h:nm∈ws)(hw:∀w∈ws,w∉bF/\w≠AW):Rh nm:=⟨(hw _ h).1,(hw _ h).2⟩
def Dp.Cr(o:Dp P q T b)(h:Rh t.name)(hp:t.name≠wP):Dp P q T (b.Cr t):=o.Mw h.b h.t λe=>absurd e hp
def Dp.LM(o:Dp P q T b)(h:Rh t.name):Dp P q T (b.block t):=o.block h.b h.t
def Dp.set(o:Dp P q T b)(c:BS)(h1:c.a=b.a:=by rfl)(h3:c.Au=b.Au:=by rfl)(e:c.A3=b.A3:=by rfl)(h2:c.rs=b.rs:=by rfl):Dp P q T c:=o.eq h1 h3 e h2
def Dp.Iq(o:Dp P q T b)(h:Rh t.name)(hp:t.name≠wP):Dp P q T (b.Iq t):=by
 unfold BS.Iq;simp only
 have a:=o.B7.1;split;.rename_i h1;exact Dp.Cr (a.eU (ws:=Dg) Az h1) h hp
 .exact Dp.Cr a h hp
def Dp.MP(o:Dp P q T b)(h:t.name=aYd):Dp P q T (b.MP t):=by
 have hn:Rh t.name:=⟨by rw[h];decide,by rw[h];decide⟩;unfold BS.MP;split;.exact o
 .simp only
  have e:=o.LM hn;split;.exact e
  .have hw:=O4 (b:=b.B7) (nm:=t.name) (l:=t.As);have f:b.B7.Li 1=b.B7.a.len+1:=by unfold BS.Li;rw[Ae KG]
   refine⟨⟨e.cm.ok.of_eq rfl rfl rfl rfl,e.cm.ac,λ_=>?_,e.cm.fo,e.cm.fr,e.cm.x_⟩,e.hd.le .refl rfl,e.d,e.md,e.tme⟩;simp only[f];exact⟨hw.2.2.1,hw.2.1,hw.1.trans h⟩
def Dp.FW(o:Dp P q T b){ws:List Ah}(hw:∀w∈ws,w∉H8):Dp P q T (b.FW ws):=by
 unfold BS.FW;split
 .rename_i i hi;split
  .rename_i h1;obtain⟨A,C,e,_,u⟩:=Ug hi;have h2:=B9.1 h1;have g:∀x∈C,AH ws x=false/\Em x=false:=λx hx=>by
    have h3:=u x hx;unfold BS.JU at h3;rw[Lc] at h3;refine⟨h3.1,?_⟩;cases r:Em x with
    |false=>rfl
    |true=>have f:=h3.2;rw[spT r] at f;simp at f;have p:=(B9.1 r).2;have s:=(B9.1 f).2;simp at p;rw[p] at s;exact absurd s Az
   have uC:AH [i.name] i=true:=B9.2 ⟨h2.1,AB⟩;have v:AD (AH [i.name]) b.Au=(A.length:Int):=by
    rw[e];refine HG uC λx hx=>?_;cases h3:AH [i.name] x with
    |false=>rfl
    |true=>have f:=B9.1 h3;have p:=f.2;simp at p;have:AH ws x=true:=B9.2 ⟨f.1,by rw[p];exact h2.2⟩;rw[(g x hx).1] at this;cases this
   have hl:=o.d.pf.len;have hpos:=lD o.d (o.d.pf.not hw) (k:=A.length) (by rw[e];simp) (by
    have:b.Au[A.length]'(by rw[e];simp)=i:=by simp[e]
    rw[this];exact h1)
   unfold BS.Dw;rw[Nv (λa ha=>by have:=(B9.1 ha).2;simp at this;exact Ak (.inr (.inr this))) Ac]
   refine o.go (sL o.cm Nq) ?_;simp only
   unfold Hc;rw[v,(Ac:max 1 ((A.length:Int)).toNat=A.length)];refine o.d.take hpos λx hx=>?_;rw[e,Rn] at hx;rcases AF.1 hx with rfl|hx
   .exact Zy (λr=>hw _ r Az) h1
   .exact(g x hx).2
  .exact o
 .exact o
def Dp.SX(o:Dp P q T b)(h:Rh t.name):Dp P q T (b.SX t):=by
 unfold BS.SX;refine Dp.LM ?_ h;have a:Dp P q T {b with fs:=false}:=o.set _;split;.exact a.FW Az
 .exact a.FW Az
def Dp.KX(o:Dp P q T b)(h:t.name=aXQ):Dp P q T (b.KX t):=by
 unfold BS.KX;simp only
 have a:Dp P q T (if b.has [aXQ] then b.Dw aXQ [] else b):=by
  split;.rename_i h1;exact o.Dw (sc:=1) (.inl rfl) Az (.inl Az) h1
  .exact o
 exact(Dp.Cr a.AM ⟨by rw[h];decide,by rw[h];decide⟩ (by rw[h];decide)).set _
def Dp.wR(o:Dp P q T b)(h:t.name∈B2):Dp P q T (b.wR t):=o.AM.Eu h
def Dp.Nx(o:Dp P q T b):Dp P q T b.Nx:=by
 unfold BS.Nx;simp only
 split;.exact o
 .rename_i h1;obtain⟨u,s,hname⟩:=S0 h1;generalize b.A3.getD (DT [97] b.A3).toNat Cn.zero=fe at*;have g:=Vn (m:=P.length) (nm:=[97]) o.cm.ok o.cm.ac Az o.d.len o.d.ĺ;have f:=o.fm g;have hfe:=o.cm.ac fe u;have r:=o.cm.ok.ac fe u;have a:Dp P q T {b.C7 [97] with Au:=Am.Cg fe.node (b.C7 [97]).Au}:=by
   refine f.go (sL f.cm EL) (f.d.fm (Zv f.d.len (λi hi e=>?_) f.d.ĺ));have h2:=f.cm.ok.op i hi;rcases hfe with h3|h3
   .exact absurd h3 s
   .rcases r with p|p
    .exact absurd p s
    .rw[e,g.le.Bd _ p.1,g.le.name _ p.1] at h2;exact Ht (by rw[<-h2.2.2.1,h3.2.2]) (by rw[<-h2.2.2.2,h3.2.1];exact h3.1)
  exact⟨⟨a.cm.ok.iO (l:=BS.Ke (b.C7 [97]).A3 fe.node) Mm,a.cm.ac.sub Mm,a.cm.Ż,a.cm.fo,a.cm.fr,a.cm.x_⟩,a.hd.le .refl rfl,a.d,a.md,a.tme⟩
def Dp.WK(o:Dp P q T b)(h:t.name∈B2):Dp P q T (b.WK t):=o.Nx.wR h
def Dp.Ui(o:Dp P q T b)(h:t.name∈B2):Dp P q T (b.Ui t):=by
 unfold BS.Ui;simp only
 split;.exact(o.AM.C7 Az).AM.Eu h
 .exact o.AM.Eu h
def Dp.mark(o:Dp P q T b):Dp P q T {b with A3:=b.A3++[Cn.zero]}:=by
 refine⟨⟨kX o.cm.ok,λe he=>?_,o.cm.Ż,o.cm.fo,o.cm.fr,o.cm.x_⟩,o.hd.le .refl rfl,o.d,o.md,o.tme⟩;rcases Ao.1 he with h|h
 .exact o.cm.ac e h
 .simp at h;subst h;exact .inl rfl
def Dp.BV(o:Dp P q T b)(h:Rh t.name)(hp:t.name≠wP):Dp P q T (b.BV t):=by
 unfold BS.BV;simp only
 exact((Dp.Cr o.AM h hp).mark).set _
def Dp.GR(o:Dp P q T b):Dp P q T (b.GR t):=o.fO
def Dp.empty(o:Dp P q T b):Dp P q T (b.empty t):=by
 unfold BS.empty;split;.exact(o.B7.1.GR).set _
 .split;.exact(o.GR).set _
  .split;.exact(o.AM.GR).set _
   .exact(o.AM.GR).set _
def Dp.KY(o:Dp P q T b)(h:Rh t.name)(hp:t.name≠wP):Dp P q T (b.KY t):=by
 unfold BS.KY;split;.rename_i h1;exact Dp.Cr ((o.eU (ws:=[aX0]) Az h1).AM) h hp
 .exact Dp.Cr o.AM h hp
def Dp.SZ(o:Dp P q T b)(h:Rh t.name)(hp:t.name≠wP):Dp P q T (b.SZ t):=by
 unfold BS.SZ;split;.exact Dp.Cr o.Uj h hp
 .exact Dp.Cr o h hp
def Dp.HR(o:Dp P q T b):Dp P q T (b.HR t):=by
 unfold BS.HR;simp only
 have hsp:(if t.name=aYG then(3:Int) else 2)=2\/(if t.name=aYG then(3:Int) else 2)=3:=by split<;>simp
 have a:=o.AM;have f:=a.aLA (nm:=t.name) (l:=t.As) hsp;split
 .have hl:=a.d.len;have h2:=a.d.pf.len;generalize(if t.name=aYG then(3:Int) else 2)=s at*;have hk:BS.LD s:=by unfold BS.LD;omega
  have e:(b.AM.Co t.name t.As s).Au=b.AM.Au++[b.AM.HA t.name t.As s]:=by
   unfold BS.Co;rw[Ae hk];have:(b.AM.Gf t.name t.As s (b.AM.place 0).1).Au=b.AM.Au:=by unfold BS.Gf;rw[Ae hk]
   simp only[this]
  have hp:=wT f.cm;refine f.go hp ?_;have g:(b.AM.Co t.name t.As s).FB.Au=b.AM.Au:=by unfold BS.FB;rw[Aa (by rw[e];simp;omega)];simp only[e,An,AQ,ML];rw[Bk (Ad _),Bl]
  rw[g];exact a.d
 .exact f
def Dp.Jq(o:Dp P q T b):Dp P q T (b.Jq t):=by
 unfold BS.Jq;split;.exact o
 .split;.exact o.FJ
  .split;.exact Dp.FJ (o.set _)
   .exact o
def aHS(o:Dp P 7 T b)(hn:t.name∈qS):Ep (b.Zu t):=by
 have e:(7:Int)=7\/((7:Int)=18/\T≠[]):= .inl rfl;have a:t.name≠aYr->t.name∈bJ:=λh=>by
  simp only[qS,AF,Ej,Mv] at hn;rcases hn with h1|h1|h1|h1|h1
  .rw[h1];decide
  .rw[h1];decide
  .rw[h1];decide
  .rw[h1];decide
  .exact absurd h1 h
 unfold BS.Zu;split;.rename_i h;exact Js ((o.LM ⟨by rw[h];decide,by rw[h];decide⟩).set _) e
 .rename_i h;have a:=a h;split;.exact(o.Zu e a (s:=2)).kp (kpE (o.Zu e a (s:=2)).cm rfl rfl rfl rfl) rfl
  .split;.exact Dp.Zu (P:=P) (q:=7) (T:=T) (b:={b.B7.AM with fs:=false}) (o.B7.1.AM.set _) e a
   .split;.exact Dp.Zu (P:=P) (q:=7) (T:=T) (b:={b with fs:=false}) (o.set _) e a
    .exact o.Zu e a
def Dy{nm:Ah}{ws:List Ah}(h:nm∉ws){w:Ah}(hw:w∈ws):nm≠w:=λe=>h (e▸hw)
def ŗ(o:Dp P 7 T b)(B:T=b.tm)(hk:t.ok)(h2:t.k=2):NX t b (b.opens t):=by
 have g:(7:Int)=7\/((7:Int)=18/\T≠[]):= .inl rfl;have st:∀{c},Dp P 7 T c->NX t b (c,false):=λd=> .B0 (Js d g);unfold BS.opens;refine NX.ite (λh=>Wd o g hk ⟨h2,h⟩) λr=>NX.ite (λh=>st (o.LM (I4 h Az))) λp=>NX.ite (λh=>st (o.Iq (I4 h Az) (λe=>absurd h (by rw[e];decide)))) λA=>NX.ite (λh=>st ((o.LM (I4 h Az)).set _)) λz=>NX.ite (λh=>st (o.wR (by have key:∀w∈ve,w∈B2:=Az;exact key _ h))) λy=>NX.ite (λh=>st (o.BV (I4 h Az) (λe=>absurd h (by rw[e];decide)))) λv=>NX.ite (λh=>st o.empty) λu=>NX.ite (λh=>st o) λa=>NX.ite (λh=> .B0 (aHS o h)) λs=>NX.ite (λh=>st (o.SZ (I4 h Az) (λe=>absurd h (by rw[e];decide)))) λPg=>NX.ite (λh=>st o.HR) λUD=>NX.ite (λh=>st (o.SX (I4 h Az))) λWa=>NX.ite (λh=>st (o.KY (I4 h Az) (λe=>absurd h (by rw[e];decide)))) λeX=>NX.ite (λh=>st o.Jq) λZH=>NX.ite (λh=>?_) λrF=>NX.ite (λh=>st (o.MP h)) λmw=>NX.ite (λh=>st (o.KX h)) λvp=>NX.ite (λh=>st (o.WK (by rw[h];decide))) λmX=>NX.ite (λh=>st (o.Ui (by rw[h];decide))) λō=>NX.ite (λh=> .inl rfl) λya=>NX.ite (λh=>?_) λf=>?_
 .unfold BS.JL;split;.exact st o
  .exact .inl rfl
 .left;show Gv (if b.mode=9\/b.mode=11\/b.mode=13\/b.mode=14\/b.mode=15 then 17 else 16)=false;split<;>rfl
 .refine st (Dp.Cr o.AM ⟨λhb=>?_,Dy r Az⟩ (Dy p Az));simp only[bF,AF,Ej,Mv] at hb;rcases hb with h|h|h|h|h|h|h|h|h|h|h|h|h|h|h|h
  .exact Dy ZH Az h
  .exact Dy a Az h
  .exact Dy ZH Az h
  .exact rF h
  .exact ya h
  .exact f h
  .exact Dy a Az h
  .exact Dy a Az h
  .exact Dy a Az h
  .exact Dy a Az h
  .exact Dy a Az h
  .exact Dy a Az h
  .exact Dy a Az h
  .exact Dy a Az h
  .exact Dy a Az h
  .exact Dy a Az h
def Dp.Fa(o:Dp P q T b)(h1:t.name∉H8)(h2:t.name∉Fu):Dp P q T (b.Fa t):=by
 unfold BS.Fa;split;.rename_i h;exact o.Dw (sc:=1) (.inl rfl) h1 (.inl h2) h
 .exact o
def Dp.FH(o:Dp P q T b):Dp P q T b.FH:=by
 unfold BS.FH;split
 .rename_i h;obtain⟨h0,e⟩:=o.d.sc (.inl rfl) (o.d.pf.not (ws:=Dg) Az) (λi hi=>Zy Az hi) h;rw[Nv (λa ha=>by have:=(B9.1 ha).2;have key:∀w∈Dg,w∉Fu:=Az;exact Ak (.inr (.inl (key _ this)))) h0]
  exact o.go (sL o.cm Nq) e
 .exact o
def Dp.clear(o:Dp P q T b):Dp P q T {b with A3:=FF b.A3}:=
 ⟨⟨o.cm.ok.iO (Ch _ _),o.cm.ac.sub (Ch _ _),o.cm.Ż,o.cm.fo,o.cm.fr,o.cm.x_⟩,o.hd.le .refl rfl,o.d,o.md,o.tme⟩
def Dp.GA(o:Dp P q T b)(h1:t.name∉H8)(h2:t.name∉Fu):Dp P q T (b.GA t):=by
 unfold BS.GA;split;.rename_i h;exact(o.Dw (sc:=1) (x:=[]) (.inl rfl) h1 (.inl h2) h).clear
 .exact o
def Dp.HS(o:Dp P q T b)(h1:t.name∈Zt):Dp P q T (b.HS t):=by
 have hp:t.name∉H8:=by have key:∀w∈Zt,w∉H8:=Az;exact key _ h1
 unfold BS.HS;have zh:(if t.name=[112] then(3:Int) else if t.name=[108,105] then 2 else 1)=1\/(if t.name=[112] then(3:Int) else if t.name=[108,105] then 2 else 1)=2\/(if t.name=[112] then(3:Int) else if t.name=[108,105] then 2 else 1)=3:=by
  split;.simp
  .split<;>simp
 dsimp only;generalize(if t.name=[112] then(3:Int) else if t.name=[108,105] then 2 else 1)=sc at zh;by_cases h:b.N7 sc (AH [t.name])=true;.rw[Ae h];exact o.Dw (sc:=sc) zh hp (.inr rfl) h
 .rw[Aa h];split
  .rename_i h2;have k:=GS (nm:=[112]) (l:=[]) (sp:=1) o.cm;have hl:=o.d.len;have uB:=o.d.pf.len;have f:(b.Cr (Gj [112])).Au=b.Au++[b.HA [112] [] 1]:=EM;have hi:AH [t.name] (b.HA [112] [] 1)=true:=by rw[KZ,h2];decide
   have g:AD (AH [t.name]) (b.Cr (Gj [112])).Au=(b.Au.length:Int):=by rw[f,Il,Ae hi]
   have e:((b.Cr (Gj [112])).Dw t.name t.name).Au=b.Au:=by
    unfold BS.Dw;rw[Nv (λa ha=>by have:=(B9.1 ha).2;simp at this;exact Ak (.inr (.inr this))) (by rw[g];omega),g,f]
    show Hc _ _=_;unfold Hc;rw[(Ac:max 1 ((b.Au.length:Int)).toNat=b.Au.length),Bk (Ad _),Bl]
   have p:Kp b ((b.Cr (Gj [112])).Dw t.name t.name):=k.trans (sL (o.cm.go k) (Dh.trans Dh));exact o.go p (by rw[e];exact o.d)
  .exact o
def Dp.aDJ(o:Dp P q T b){f:Int}(hf:f≠0->b.a.has f/\(b.a.nd f).Bd=1/\(b.a.nd f).name=aYd):Dp P q T {b with Ha:=f}:=
 ⟨⟨o.cm.ok.of_eq rfl rfl rfl rfl,o.cm.ac,hf,o.cm.fo,o.cm.fr,o.cm.x_⟩,o.hd.le .refl rfl,o.d,o.md,o.tme⟩
def Dp.JM(o:Dp P q T b)(h:t.name=aYd):Dp P q T (b.JM t):=by
 unfold BS.JM;split;.exact o.Fa (by rw[h];decide) (by rw[h];decide)
 .split
  .rename_i h1;have hf:=o.cm.Ż h1.1;have a:=o.Uj (s:=[]);have g:Dp P q T {b with Au:=Am.Cg b.Ha (D6 (CL []) Dm b.Au)}:=by
    have:=a.Cg (y:=b.Ha) (w:=aYd) Az Az Az (λi hi e=>by have h2:=a.cm.ok.op i hi;rw[e] at h2;exact⟨by rw[<-h2.2.2.1];exact hf.2.1,by rw[<-h2.2.2.2];exact hf.2.2⟩)
    exact this
   exact g.aDJ (f:=0) (λe=>absurd rfl e)
  .exact o.aDJ (f:=0) (λe=>absurd rfl e)
def vu(o:Dp P 7 T b)(f:T=b.tm)(hm:b.mode=7)(hk:t.ok)(h3:t.k=3):NX t b (b.MJ t):=by
 have g:(7:Int)=7\/((7:Int)=18/\T≠[]):= .inl rfl;have st:∀{c},Dp P 7 T c->NX t b (c,false):=λd=> .B0 (Js d g);unfold BS.MJ;refine NX.ite (λh=>?_) λe=>NX.ite (λh=>?_) λa=>NX.ite (λh=>st (o.Fa ?_ ?_)) λz=>NX.ite (λh=>st (o.C7 (by rw[ĸ] at h;exact h))) λy=>NX.ite (λh=>st o.FH) λv=>NX.ite (λh=>st (o.GA ?_ ?_)) λu=>NX.ite (λh=>st (o.HS h)) λs=>NX.ite (λh=>st (o.JM h)) λr=>NX.ite (λh=>st o.empty) λp=>st (o.C1 e (Dy a Az) (Dy a Az));.rw[O8 hk ⟨h3,by rw[h];simp⟩];exact .B0 (nc (P:=P) ⟨o.cm,o.hd,by rw[<-f];exact o.d,rfl,rfl⟩ (.inl hm))
 .unfold BS.PZ;split;.exact .inl rfl
  .exact st o
 .have key:∀w∈Q8,w∉H8:=by decide
  exact key _ h
 .have key:∀w∈Q8,w∉Fu:=by decide
  exact key _ h
 .have key:∀w∈WJ,w∉H8:=by decide
  exact key _ h
 .have key:∀w∈WJ,w∉Fu:=by decide
  exact key _ h
def vw(o:Ep b)(hm:b.mode=7):NX t b (b.H7 t):=by
 obtain⟨_,P,d⟩:=o.dp (.inl hm);have a:Dp P 7 b.tm b:=⟨d.cm,d.hd,d.d,hm,rfl⟩;have e:(7:Int)=7\/((7:Int)=18/\b.tm≠[]):= .inl rfl;unfold BS.H7;by_cases hk:t.ok;rotate_left;.rw[Ae hk];exact .B0 o
 rw[Aa (by simpa using hk)];refine NX.ite (λ_=> .B0 (Js a.HL e)) λf=>NX.ite (λ_=> .B0 (Js a.DD e)) λg=>NX.ite (λp=>?_) λr=>NX.ite (λh=>ŗ a rfl hk h) λ_=>NX.ite (λh=>vu a rfl hm hk h) λ_=> .B0 o;refine NX.ite (λh=>?_) λ_=>nh o;have hne:b.tm≠[]:=CB.1 h;unfold BS.D0;rw[Aa (by simpa using hk),Aa f,Aa g,Aa Ac,Aa (λh=>by have:=h.1;omega),Aa (λh=>by have:=h.1;omega),Aa (λh=>by have:=h.1;omega),Aa (λh=>by have:=h.1;omega),Aa (λh=>by have:=h.1;omega),Aa (λh=>by have:=h.1;omega),Aa Ac,Aa Ac];exact fE d (.inl hm) p hne
def ZQ{qk:Dr->Bool}(o:Ep b):NX t b (b.apply qk t):=by unfold BS.apply;exact NX.ite (λ_=> .B0 o) λ_=>NX.ite (λh=>xH o h) λ_=>NX.ite (λh=>bL o h) λ_=>NX.ite (λh=>bM o h) λ_=>NX.ite (λh=>xM o h) λ_=>NX.ite (λh=>bO o h) λ_=>NX.ite (λh=>lU o h) λ_=>NX.ite (λh=>vw o h) λ_=>NX.ite (λh=>vt o h) λ_=>NX.ite (λh=>bP o h) λ_=> .B0 o
end
def aRm(h:Ai):∃h' bi F,CD cx 19 [] h (Pt bi 0) h'/\PB h' bi (Ih false) F/\FC h (λ_=>False) h' F:=by
 obtain⟨h1,h2,h',bi,G,b,r2,a,w,x⟩:=aQj h false;refine⟨h',bi,BU bi G,?_,⟨_,_,_,_,_,w,⟨[],rfl,.inr ⟨rfl,rfl⟩⟩,rfl⟩,?_⟩;.rw[Ag,ä,t19];simp only[abS,b.Af,r2.Af,a.Af]
 .exact x
def Ew(qk:Dr->Bool):List Dr->BS->BS×Nat
 |[],b=>(b,2)
 |t::l,b=>if(L4 qk t (9+b.tm.length) b).2=false then((L4 qk t (9+b.tm.length) b).1,0) else if Gv (L4 qk t (9+b.tm.length) b).1.mode=false then((L4 qk t (9+b.tm.length) b).1,1) else Ew qk l (L4 qk t (9+b.tm.length) b).1
def aDK(bi:Nat)(k:Nat):Ab:= .tuple [if k=0 then .ptr none else Pt bi 0,.bool (k==2)]
def Vp(qk:Dr->Bool)(t:Dr)(b:BS):Prop:=b.tm.length<=1000000000/\∃J:Nat->BS->Prop,J (9+b.tm.length) b/\∀k c,J (k+1) c->Gv c.mode=true->∃n o a,Gz c (n+8*(4*(o+a+8)+10)+8*a+2000) o a/\(c.mode=6->Ny c)/\(c.mode=18->c.tm≠[])/\((c.apply qk t).2=true->J k (c.apply qk t).1)
def aRn{qk:Dr->Bool}{l:List (Dr×Ab)}{v:Ab}(hv:Bx 12 (l.map λp=>CT p.1 p.2) v)(ha:∀p∈l,BF p.1.As p.2/\p.1.Sm)(hn:l.length<9223372036854775807)(hq:∀p∈l,∀{vo:Ab} (h:Ai),CD cx 67 [.agg (CT p.1 vo)] h (.bool (qk p.1)) h)
  {K:List Dr->BS->Prop} (E:∀t l c,K (t::l) c->Vp qk t c/\K l (L4 qk t (9+c.tm.length) c).1) (h0:K (l.map (·.1)) (Ih false)) (h:Ai):
  ∃h' bi F,CD cx 7 [v] h (aDK bi (Ew qk (l.map (·.1)) (Ih false)).2) h'/\PB h' bi (Ew qk (l.map (·.1)) (Ih false)).1 F/\FC h (λ_=>False) h' F:=by
 obtain⟨h1,bi,F,D,w,C⟩:=aRm h;have q:=Bx.GN hv;have Ql:Ev cx 7 [v] h λr h'=>r=aDK bi (Ew qk (l.map (·.1)) (Ih false)).2/\∃F',PB h' bi (Ew qk (l.map (·.1)) (Ih false)).1 F'/\FC h (λ_=>False) h' F':=by
  unfold Ev;rw[aDa,t7];simp only[abS,D.Af];refine Cv (λk:Nat=>[.ptr none,ff,I (k:Int)]) (λk h2=>k<=l.length/\∃c s,PB h2 bi c s/\K ((l.drop k).map (·.1)) c/\FC h (λ_=>False) h2 s/\Ew qk ((l.drop k).map (·.1)) c=Ew qk (l.map (·.1)) (Ih false)) (λk=>l.length-k) 0 rfl ⟨Bn _,Ih false,F,w,h0,C,rfl⟩ ?_;rintro k h2 ⟨hk,c,s,B,kk,f,b⟩;by_cases hlt:k<l.length
  .have e:(k:Int)<(l.length:Int):=by omega
   rw[AA hlt,AV] at kk b;obtain⟨⟨y,J,z,G⟩,x⟩:=E _ _ _ kk;have hm:=ha _ (AG hlt);obtain⟨h3,A,d,i,u⟩:=aRk B hm.2 hm.1 (hq _ (AG hlt)) (λk c j o=>by obtain⟨n,o,a,g,L,gf,H⟩:=G k c j o;exact⟨n,o,a,g,L,gf,H⟩) z y
   have ld:Bp h2 (some 12) (.Cd (CT l[k].1 l[k].2))=some (.agg (CT l[k].1 l[k].2)):=by rw[SG];rfl
   have l3:=i.Cj;have m:=aLY (L4 qk l[k].1 (9+c.tm.length) c).1.mode;rw[Ew] at b;cases hs:(L4 qk l[k].1 (9+c.tm.length) c).2 with
   |false=>rw[hs] at d b;rw[Ae rfl] at b;simp only[abS,q,e,ZK hv hlt,ld,d.Af];exact⟨_,rfl,by rw[<-b];rfl,A,by rw[<-b];exact i,f.trans u⟩
   |true=>
    rw[hs] at d b;rw[Aa AB] at b;cases ho:Gv (L4 qk l[k].1 (9+c.tm.length) c).1.mode with
    |false=>rw[ho] at m b;rw[Ae rfl] at b;simp only[abS,q,e,ZK hv hlt,ld,d.Af,l3,m.Bz rfl rfl];exact⟨_,rfl,by rw[<-b];rfl,A,by rw[<-b];exact i,f.trans u⟩
    |true=>rw[ho] at m b;rw[Aa AB] at b;simp only[abS,q,e,ZK hv hlt,ld,d.Af,l3,m.Bz rfl rfl,DB (Ac:k<9223372036854775807)];exact By.next (k+1) rfl ⟨hlt,_,A,i,x,f.trans u,b⟩ Ac
  .have e:¬(k:Int)<(l.length:Int):=by omega
   rw[AX Ac] at b;rw[CM,Ew] at b;simp only[abS,q,e];exact⟨_,rfl,by rw[<-b];rfl,s,by rw[<-b];exact B,f⟩
 obtain⟨r,h',hr,rfl,F',hp,hx⟩:=Ql.ret;exact⟨h',bi,F',hr,hp,hx⟩
section
variable{b c:BS}{t:Dr}{qk:Dr->Bool}{j k e:Nat}{l:List Dr}
def aCk(h:Gv b.mode=false):L4 qk t k b=(b,true):=by
 cases k with
 |zero=>rw[L4,h];rfl
 |succ k=>rw[L4,h,Ae rfl]
end
end Go.Am
end
section
end
section
namespace Go.Am
open Go
def Is(r:KE):Lt:=λx vs h=>r=(x,vs,h)
def Is.ret{C:Gw}{f:FuncId}{args:List Ab}{h h':Ai}{v:Ab}(hw:W C (Cf C f args) (Is (.ret,[v],h')) h):CD C f args h v h':=
 hw.mono λx vs h1 e=>by unfold Is at e;cases e;exact⟨rfl,rfl,rfl⟩
def Is.of{C:Gw}{f:FuncId}{args:List Ab}{h h':Ai}{v:Ab}(hr:CD C f args h v h'):W C (Cf C f args) (Is (.ret,[v],h')) h:=
 W.mono hr λx vs h1 ⟨c,b,a⟩=>by unfold Is;rw[c,b,a]
section
variable{C:Gw}{fn':FuncId->List Ab->IT}
def Ř{rec:IT->Ai->Option KE}(Wx:∀t h r,rec t h=some r->W C t (Is r) h)(ni:∀f args h r,rec (fn' f args) h=some r->W C (Cf C f args) (Is r) h):
  ∀(t:IT) (h:Ai) (r:KE),IT.step fn' rec t h=some r->W C t (Is r) h:=by
 intro t;induction t with
 |ret x vs=>intro h r d;simp only[IT.step,BO] at d;exact aCE d.symm
 |fail=>intro h r d;simp[IT.step] at d
 |op o args k ih=>
  intro h r d;simp only[IT.step] at d;split at d;.rename_i v e;exact aIR e (ih _ _ _ d)
  .cases d
 |cells n v k ih=>
  intro h r d;simp only[IT.step] at d;split at d;.rename_i hc;exact yQ hc (ih _ _ _ d)
  .cases d
 |A0 c t e i w=>
  intro h r d;simp only[IT.step] at d;split at d;.exact yR (λ_=>i _ _ d) λh=>by cases h
  .exact yR (λh=>by cases h) λ_=>w _ _ d
  .cases d
 |load n p k ih=>
  intro h r d;simp only[IT.step] at d;split at d;.rename_i v e;exact ym e (ih _ _ _ d)
  .cases d
 |store n p v k ih=>
  intro h r d;simp only[IT.step] at d;split at d;.rename_i v e;exact yS e (ih _ _ d)
  .cases d
 |alloc n v k ih=>
  intro h r d;simp only[IT.step,XF] at d;by_cases hc:v.cells.length=n;.rw[Ae hc] at d;exact yT hc (ih _ _ _ d)
  .rw[Aa hc] at d;cases d
 |call f args k ih=>
  intro h r d;simp only[IT.step] at d;split at d;.rename_i v h1 e;exact(Is.ret (ni _ _ _ _ e)).Af.2 (ih _ _ _ d)
  .cases d
 |EJ g args k ih=>
  intro h r d;simp only[IT.step] at d;split at d
  .rename_i f a ht;split at d;.rename_i v h1 e;exact N2.2 ⟨(f,a),ht,(Is.ret (ni _ _ _ _ e)).Af.2 (ih _ _ _ d)⟩
   .cases d
  .cases d
 |Bz f args k ih=>
  intro h r d;simp only[IT.step] at d;split at d
  .rename_i Jz;split at d
   .rename_i v h1 e;split at d;.rename_i xc;have hp:NL C f args v:=(Is.ret (ni _ _ _ _ e)).ev rfl;exact(hp.Bz Jz xc).2 (ih _ _ _ d)
    .cases d
   .cases d
  .cases d
 |loop key init body k u j=>
  intro h r d;simp only[IT.step] at d;split at d;.rename_i vs h1 e;exact QP ((u _ _ _ e).mono λx l h2 q=>by unfold Is at q;cases q;exact .inl ⟨rfl,Wx _ _ _ d⟩)
  .rename_i x vs h1 hne e;exact QP ((u _ _ _ e).mono λx l h2 q=>by unfold Is at q;cases q;exact .inr ⟨λhx=>hne hx,j _ _ _ _ d⟩)
  .cases d
 |GY key t k i j=>
  intro h r d;simp only[IT.step] at d;split at d;.rename_i x vs h1 e;exact yv ((i _ _ e).mono λx l h2 q=>by unfold Is at q;cases q;exact j _ _ _ _ d)
  .cases d
 |same a b k ih=>
  intro h r d;simp only[IT.step] at d;split at d;.rename_i hc;exact yn hc (ih _ _ d)
  .cases d
 |Oy k ih=>intro h r d;simp only[IT.step] at d;exact yo (ih _ _ _ d)
 |Iw m key v k ih=>
  intro h r d;simp only[IT.step] at d;split at d;.rename_i h1 e;exact yp e (ih _ _ d)
  .cases d
 |M8 z ok m key k ih=>
  intro h r d;simp only[IT.step] at d;split at d;.rename_i h1 e;exact yq e (ih _ _ _ d)
  .cases d
 |make size bytes zero len cap k ih=>
  intro h r d;simp only[IT.step] at d;split at d;.rename_i h1 v e;exact yr e (ih _ _ _ d)
  .cases d
 |Ks size bytes s x k ih=>
  intro h r d;simp only[IT.step] at d;split at d;.rename_i h1 v e;exact yU e (ih _ _ _ d)
  .cases d
 |Fq s k ih=>
  intro h r d;simp only[IT.step] at d;split at d;.rename_i h1 v e;exact XS e (ih _ _ _ d)
  .cases d
 |UF v k ih=>
  intro h r d;simp only[IT.step] at d;split at d;.rename_i h1 v e;exact aCF e (ih _ _ _ d)
  .cases d
 |Ja off p k ih=>
  intro h r d;simp only[IT.step] at d;split at d;.rename_i h1 e;exact yV e (ih _ _ d)
  .cases d
 |GZ size bytes s x k ih=>
  intro h r d;simp only[IT.step] at d;split at d;.rename_i h1 v e;exact yt e (ih _ _ _ d)
  .cases d
 |GW size bytes s x k ih=>
  intro h r d;simp only[IT.step] at d;split at d;.rename_i v e;exact cC e (ih _ _ _ d)
  .cases d
 |mem o args k ih=>
  intro h r d;simp only[IT.step] at d;split at d;.rename_i h1 v e;exact aCG e (ih _ _ _ d)
  .cases d
 |yJ f args k ih=>
  intro h r d;simp only[IT.step] at d;split at d
  .rename_i v h1 e;split at d;.rename_i xc;obtain⟨n,x,vs,h2,D,y⟩:=ni _ _ _ _ e;unfold Is at y;cases y;obtain⟨m,x',Iy,h',B,A⟩:=(ih _ _ _ d).succ;refine C6 ⟨max n m,x',Iy,h',?_,A⟩;have a1:=IT.IL (Iu n m) D;have a2:=IT.Kt (λt h r=>IT.IL (fn:=Cf C) (HP n m)) _ _ _ B;simp only[IT.step];simp only[Gw.run] at*;rw[a1];simp only[xc,BN];exact a2
   .cases d
  .cases d
def aHT(C:Gw)(fn':FuncId->List Ab->IT):Prop:=∀f args,fn' f args=Cf C f args\/∀n h r,IT.run fn' n (fn' f args) h=some r->W C (Cf C f args) (Is r) h
def lV(hs:aHT C fn'):∀(n:Nat) (t:IT) (h:Ai) (r:KE),IT.run fn' n t h=some r->W C t (Is r) h
 |0,t,h,r,a=>by simp[IT.run] at a
 |n+1,t,h,r,a=>by
  refine Ř (rec:=IT.run fn' n) (lV hs n) ?_ t h r a;intro f args h r a;rcases hs f args with e|e
  .rw[e] at a;exact lV hs n _ _ _ a
  .exact e n h r a
def vy(hs:aHT cx fn'){f:FuncId}{args:List Ab}{h:Ai}(n:Nat)(hr:Y9 (IT.run fn' n (Cf cx f args) h)=true):Ev cx f args h λr _=>r= .bool true:=by obtain⟨h',e⟩:=aY hr;exact(Is.ret (lV hs n _ _ _ e)).ev rfl
def nj(v:Ab):IT:= .Fq (.str []) λu=> .UF u λ_=> .ret .ret [v]
def fF{n:Nat}{v:Ab}{h:Ai}{r:KE}(e:IT.run fn' n (nj v) h=some r):r=(.ret,[v],h++[.Ef]):=by
 cases n with
 |zero=>simp[IT.run] at e
 |succ n=>
  have e0:JD h (.str [])=some (h++[.cells []],.Du h.length 0 0 1):=rfl;have a:L6 (h++[.cells []]) (.Du h.length 0 0 1)=some (h++[.Ef],.sl 1 []):=by simp[L6,CI]
  simp only[IT.run,nj,IT.step,e0,a,BO] at e;exact e.symm
end
theorem aL2{l:Ah}{ws:List Ah}(w:Lj l ws)(s:Ah)(h:Ai):CD cx 116 [.str s,.str l] h (.bool (decide (s∈ws))) (h++[.Ef]):=by have a:=Ł w h;have r2:=aBE (Dl (ws:=ws)) (by have:=w.few;omega) s (h++[GX.Ef]);rw[Ag,iY,aBc];simp only[Cy,a.Af,r2.Af]
def eqB:Ah->Ah->Bool
 |[],[]=>true
 |a::s,b::t=>Nat.beq a.toNat b.toNat&&eqB s t
 |_,_=>false
theorem nl:∀{s t:Ah},eqB s t=true↔s=t
 |[],[]=>by simp[eqB]
 |[],b::t=>by simp[eqB]
 |a::s,[]=>by simp[eqB]
 |a::s,b::t=>by simp only[eqB,Bg,nl (s:=s) (t:=t),Cu,Nat.beq_eq];exact⟨λ⟨h1,h2⟩=>⟨UInt8.toNat_inj.1 h1,h2⟩,λ⟨h1,h2⟩=>⟨by rw[h1],h2⟩⟩
def spN(n:Nat):Bool:=(Nat.ble 9 n&&Nat.ble n 13)||Nat.beq n 32
theorem aHV(c:UInt8):spN c.toNat=O5 c:=by unfold spN O5;rw[Mz];simp only[Kb,Bg,Nat.ble_eq,Nat.beq_eq,CF]
def yb:Ah->Ah->List Ah
 |cur,[]=>match cur with
  |[]=>[]
  |_::_=>[cur.reverse]
 |cur,c::r=>match spN c.toNat with
  |true=>match cur with
   |[]=>yb [] r
   |_::_=>cur.reverse::yb [] r
  |false=>yb (c::cur) r
theorem lW:∀(s cur:Ah),yb cur s=wf cur.reverse s
 |[],[]=>by simp[yb,wf]
 |[],c::cur=>by simp[yb,wf]
 |c::r,cur=>by
  have h1:=aHV c;cases hc:O5 c with
  |true=>
   rw[hc] at h1;cases cur with
   |nil=>simp[yb,wf,h1,hc,lW r []]
   |cons x cur=>simp[yb,wf,h1,hc,lW r []]
  |false=>rw[hc] at h1;simp[yb,wf,h1,hc,lW r (c::cur)]
def okB(l:Ah):Bool:=Nat.ble l.length 1000000&&l.all λc=>Nat.ble (c.toNat+1) 128
theorem nr{l:Ah}(h:okB l=true):Lj l (yb [] l):=by unfold okB at h;simp only[Bg,Nat.ble_eq,Eg] at h;exact⟨h.1,λc hc=>by have:=h.2 c hc;omega,by rw[lW];rfl⟩
def xN(s:Ah)(l:List Ah):Bool:=l.any (eqB s)
theorem vz(s:Ah)(l:List Ah):xN s l=decide (s∈l):=by rw[Mz];simp only[xN,Ov,nl,CF];exact⟨λ⟨x,h1,h2⟩=>h2▸h1,λh=>⟨s,h,rfl⟩⟩
theorem aL3(r:Int)(h:Ai):CD cx 101 [.int .i32 r] h (.bool (decide (Qr r))) h:=by
 have b:∀(lo hi:Int) (h:Ai),CD cx 179 [.int .i32 lo,.int .i32 hi] h (.func (.func 233) [] [.Cd [.int .i32 lo],.Cd [.int .i32 hi]]) h:=λlo hi h=>by rw[Ag,Xd,Ċ];simp only[abS]
 have e:∀(v:Ab) (h:Ai),v.cells=[v]->CD cx 178 [v] h (.func (.func 232) [] [.Cd [v]]) h:=λv h hv=>by rw[Ag,jL,aBm];simp only[abS,hv]
 have c:=aLF (L:=[(9,10),(12,13),(32,32)]) Az r h;have a:AE (.Cb 1) [.func (.func 233) [] [.Cd [.int .i32 9],.Cd [.int .i32 10]],.func (.func 233) [] [.Cd [.int .i32 12],.Cd [.int .i32 13]],.func (.func 233) [] [.Cd [.int .i32 32],.Cd [.int .i32 32]]]=some (.sl 1 ([((9:Int),(10:Int)),(12,13),(32,32)].map V9)):=rfl;have d:∀v:Ab,CR (.func (.func 232) [] [v]) [.int .i32 r]=some (232,[.int .i32 r,v]):=λ_=>rfl;have r2:=e (.sl 1 ([((9:Int),(10:Int)),(12,13),(32,32)].map V9)) h rfl;have e0:decide (Qr r)=([((9:Int),(10:Int)),(12,13),(32,32)].any λp=>decide (p.1<=r/\r<=p.2)):=by
  have a:Qr r↔((9<=r/\r<=10)\/(12<=r/\r<=13)\/(32<=r/\r<=32)):=by unfold Qr;omega
  simp only[Tc,sC,S8,<-Bool.decide_or,Fy];exact a
 rw[e0,Ag,iU,aA8];simp only[abS,(b 9 10 h).Af,(b 12 13 h).Af,(b 32 32 h).Af,a,r2.Af,d,c.Af]
def ř(d:IT):List Ab->IT
 |[.str s,.str l]=>match okB l with
  |true=>nj (.bool (xN s (yb [] l)))
  |false=>d
 |_=>d
def Ś(d:IT):List Ab->IT
 |[.str l]=>match okB l with
  |true=>nj (.sl 1 ((yb [] l).map Cw))
  |false=>d
 |_=>d
def ś(d:IT):List Ab->IT
 |[.int .i32 r]=> .ret .ret [.bool (decide (Qr r))]
 |_=>d
def aL4(f:FuncId)(args:List Ab):IT:=
 match Nat.beq f 116 with
 |true=>ř (tab f args) args
 |false=>match Nat.beq f 191 with
  |true=>Ś (tab f args) args
  |false=>match Nat.beq f 101 with
   |true=>ś (tab f args) args
   |false=>tab f args
theorem aCl:aHT cx aL4:=by
 intro f args;unfold aL4;split
 .rename_i hf;have hf:=Od hf;subst hf;unfold ř;split
  .rename_i s l;split;.rename_i ho;refine .inr λn h r e=>?_;rw[fF e,vz];exact Is.of (aL2 (nr ho) s h)
   .exact .inl (by rw[SR])
  .exact .inl (by rw[SR])
 .split
  .rename_i hf;have hf:=Od hf;subst hf;unfold Ś;split
   .rename_i l;split;.rename_i ho;refine .inr λn h r e=>?_;rw[fF e];exact Is.of (Ł (nr ho) h)
    .exact .inl (by rw[SR])
   .exact .inl (by rw[SR])
  .split
   .rename_i hf;have hf:=Od hf;subst hf;unfold ś;split
    .rename_i a;refine .inr λn h r e=>?_;cases n with
     |zero=>simp[IT.run] at e
     |succ n=>simp only[IT.run,IT.step,BO] at e;rw[<-e];exact Is.of (aL3 a h)
    .exact .inl (by rw[SR])
   .exact .inl (by rw[SR])
theorem xO:Ev cx 6 [] [] λr _=>r= .bool true:=vy aCl 3000 AT
theorem xP:NL cx 6 [] tt:=xO
end Go.Am
end
