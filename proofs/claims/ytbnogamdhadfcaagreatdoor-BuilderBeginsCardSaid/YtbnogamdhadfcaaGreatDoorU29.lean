/- Lemmas -/
import Derived.Test.YtbnogamdhadfcaaGreatDoorU28
set_option linter.unusedVariables false
set_option linter.unusedSimpArgs false
section
namespace Go.Am
open Go
set_option maxRecDepth 100000
theorem Mv:∀l:List Int,(l.map Cc).flatten=l.map (Aa.int .i64)
 |[]=>rfl
 |x::l=>by simp[Cc,Mv l]
def ZK(q:Bool):Ar:={n:=[{kind:=1,Cy:=1,Cb:=q}],i:=[0]}
def CV(q:Bool):BS:={a:=ZK q,Cy:=1,AR:=[],A4:=[],mode:=1,Tp:=0,tm:=[],head:=0,Kv:=0,Jj:=false,ctx:=Item.zero,fs:=true,Ei:=false,cE:=[],skip:=false,sw:=0,stop:=false}
noncomputable def Ih(sp:Int)(nm:As)(l:List AW)(q:Bool):BS:=
 {(CV q).D9 Dc [] 1 1 with a:=((CV q).D9 Dc [] 1 1).a.D0 ((CV q).FE Dc [] 1).node 1 0,AR:=((CV q).D9 Dc [] 1 1).AR++[(CV q).FE Dc [] 1],Jj:=true,ctx:=⟨0,sp,nm,EH sp nm l⟩}
noncomputable def Ki(sp:Int)(nm:As)(l:List AW)(q:Bool):BS:=if Bp [A5] (Ih sp nm l q).ctx then{Ih sp nm l q with tm:=[18]} else Ih sp nm l q
noncomputable def Rk(sp:Int)(nm:As)(l:List AW)(q f:Bool):BS:=if f then{(Ki sp nm l q).HO with Kv:= -1} else(Ki sp nm l q).HO
structure DU where
 Jj:Bool
 AX:Int
 name:As
 Ax:List AW
 Cb:Bool
 Kv:Bool
noncomputable def DU.b(s:DU):BS:=if s.Jj then Rk s.AX s.name s.Ax s.Cb s.Kv else CV s.Cb
def O4(s:DU)(av:Aa):List Aa:=[.bool s.Jj,I s.AX,.str s.name,av,.bool s.Cb,.bool s.Kv]
theorem aCs(q:Bool):Eu (ZK q) 0:=by
 have h0:Eu (⟨[],[]⟩:Ar) 0:=by
  have hn:∀h,¬(⟨[],[]⟩:Ar).has h:=λh hh=>by have h1:=hh.1;have h2:=hh.2;simp at h2;omega
  exact⟨rfl,λh hh=>absurd hh (hn h),λh hh=>absurd hh (hn h),λh hh=>absurd hh (hn h),λh hh=>absurd hh (hn h),λh hh=>absurd hh (hn h),λh hh=>absurd hh (hn h),λh hh=>absurd hh (hn h),λh hh=>absurd hh (hn h),λh hh=>absurd hh (hn h),⟨λ_=>0,λh hh=>absurd hh (hn h)⟩⟩
 have hx:tY {kind:=1,Cy:=1,Cb:=q}:=by constructor<;>simp[Cf,GD]
 exact Vm h0 hx (.inl ⟨rfl,rfl⟩) rfl rfl rfl rfl (λh=>absurd h.1 (show¬(1:Int)=4 by decide))
theorem Nc(q:Bool):DG (CV q):=by refine⟨aCs q,⟨⟨Fq 1,Fq 1⟩,rfl⟩,λi hi=>(nomatch hi),List.nodup_nil,λe he=>(nomatch he),List.nodup_nil⟩
theorem LI{q:Bool}(x:Int):(CV q).a.nd x=if x=1 then{kind:=1,Cy:=1,Cb:=q} else{}:=by
 unfold Ar.nd;by_cases h:x=1;·subst h;rfl
 .rw[if_neg h,if_neg];intro hh;have h1:=hh.1;have h2:=hh.2;simp[CV,ZK] at h2;omega
theorem LJ(q:Bool):Sz (CV q) 101:=by
 refine⟨⟨by simp[CV,ZK],λx=>?_,λx=>?_,by simp[CV],by simp[CV],by simp[CV],λe he=>(nomatch he),λi hi=>(nomatch hi)⟩,by simp[CV],by simp[CV]⟩;·rw[LI];split<;>simp
 .rw[LI];split<;>simp
section
variable{h h':Ae}{bi a:Nat}{o c t:Aa}{G G' F:Nat->Prop}{b:BS}{x:Int}{m j:Nat}{q:dI}
variable{nm:As}{av:Aa}{l:List AW}{r:List Aa}{sp p:Int}
theorem aHt(h:Ae)(q:Bool):∃h1 h',BE cx 12 [] h (Pt h.length 0) h1/\BE cx 13 [Pt h.length 0,.bool q] h1 (I 1) h'/\PA h' h.length (h.length+1) none [⟨{kind:=1,Cy:=1,Cb:=q},.slnil,.slnil,rfl⟩] (ZK q)/\h'=h++[.cells [.Cm (h.length+1) 0 1 13,.map none],.cells [I 1,I 0,.slnil,I 1,I 0,S [],.slnil,S [],S [],S [],.bool q,I 0,I 0]]:=by
 have aX:AS=140737488355328:=rfl;have g1:∀u:Ae,Fo u 13 168 .slnil (.sl 13 [[I 1,I 0,.slnil,I 0,I 0,S [],.slnil,S [],S [],S [],.bool q,I 0,I 0]])=some (u++[.cells [I 1,I 0,.slnil,I 0,I 0,S [],.slnil,S [],S [],S [],.bool q,I 0,I 0]],.Cm u.length 0 1 13):=λu=>rfl;obtain⟨H1,hH1⟩:∃H1,H1=h++[De.cells [.slnil,.map none]]:=⟨_,rfl⟩;have c1:H1[h.length]?=some (.cells [.slnil,.map none]):=by rw[hH1];simp
 have TX:H1.length=h.length+1:=by rw[hH1];simp
 have g2:=g1 H1;rw[TX] at g2;have t1:At H1 h.length 0 .slnil:=⟨_,c1,rfl⟩;have c2:(H1++[De.cells [I 1,I 0,.slnil,I 0,I 0,S [],.slnil,S [],S [],S [],.bool q,I 0,I 0]])[h.length]?=some (.cells [.slnil,.map none]):=(Ad (by omega)).trans c1;have n2:(H1++[De.cells [I 1,I 0,.slnil,I 0,I 0,S [],.slnil,S [],S [],S [],.bool q,I 0,I 0]])[h.length+1]?=some (.cells [I 1,I 0,.slnil,I 0,I 0,S [],.slnil,S [],S [],S [],.bool q,I 0,I 0]):=by rw[<-TX];simp
 have Xp:(H1++[De.cells [I 1,I 0,.slnil,I 0,I 0,S [],.slnil,S [],S [],S [],.bool q,I 0,I 0]]).length=h.length+2:=by rw[Aq,TX];rfl
 have e12:H1++[De.cells [I 1,I 0,.slnil,I 0,I 0,S [],.slnil,S [],S [],S [],.bool q,I 0,I 0]]=h++[.cells [.slnil,.map none],.cells [I 1,I 0,.slnil,I 0,I 0,S [],.slnil,S [],S [],S [],.bool q,I 0,I 0]]:=by rw[hH1,AB];rfl
 generalize H1++[De.cells [I 1,I 0,.slnil,I 0,I 0,S [],.slnil,S [],S [],S [],.bool q,I 0,I 0]]=H2 at*;have t2:At H2 h.length 0 .slnil:=⟨_,c2,rfl⟩;have s2:=t2.store (u:= .Cm (h.length+1) 0 1 13) rfl;have c3:=Hh (k:=0) (v:= .Cm (h.length+1) 0 1 13) c2;have n3:(put H2 h.length 0 (.Cm (h.length+1) 0 1 13))[h.length+1]?=_:=(B4 (by omega)).trans n2;have e3:put H2 h.length 0 (.Cm (h.length+1) 0 1 13)=h++[.cells [.Cm (h.length+1) 0 1 13,.map none],.cells [I 1,I 0,.slnil,I 0,I 0,S [],.slnil,S [],S [],S [],.bool q,I 0,I 0]]:=by rw[Hn c2,e12,B2 _ _ (Ac _),DB];rfl
 generalize put H2 h.length 0 (.Cm (h.length+1) 0 1 13)=H3 at*;have l3:Bb H3 none (Pt h.length 0)=some (.Cm (h.length+1) 0 1 13):=At.load ⟨_,c3,rfl⟩;have e4:Aw (.Fm 13) [.Cm (h.length+1) 0 1 13,I 0]=some (.ptr (some (h.length+1,0))):=EZ (k:= .i64) (i:=0) (by decide);have t3:At H3 (h.length+1) 3 (I 0):=⟨_,n3,rfl⟩;have s3:=t3.store (u:=I 1) rfl;have c4:(put H3 (h.length+1) 3 (I 1))[h.length]?=_:=(B4 (by omega)).trans c3;have n4:=Hh (k:=3) (v:=I 1) n3;have e5:put H3 (h.length+1) 3 (I 1)=h++[.cells [.Cm (h.length+1) 0 1 13,.map none],.cells [I 1,I 0,.slnil,I 1,I 0,S [],.slnil,S [],S [],S [],.bool q,I 0,I 0]]:=by rw[Hn n3,e3,B2 _ _ (by omega),Nat.add_sub_cancel_left];rfl
 refine⟨H1,put H3 (h.length+1) 3 (I 1),?_,?_,⟨rfl,rfl,c4,n4,?_,?_,.inl ⟨rfl,λk=>?_⟩⟩,e5⟩;·rw[Ab,yD,t12];simp only[Az,↓reduceIte,AI,Bi,hH1]
 .have r1:BE cx 42 [Pt h.length 0,.agg [I 1,I 0,.slnil,I 0,I 0,S [],.slnil,S [],S [],S [],.bool q,I 0,I 0]] H1 (I 1) H3:=by rw[Ab,iR,t42];simp only[Az,Nat.reduceLeDiff,↓reduceIte,AI,Bi,t1.load,show Aw (.By 13) [.agg [I 1,I 0,.slnil,I 0,I 0,S [],.slnil,S [],S [],S [],.bool q,I 0,I 0]]=some (.sl 13 [[I 1,I 0,.slnil,I 0,I 0,S [],.slnil,S [],S [],S [],.bool q,I 0,I 0]]) from rfl,g2,s2,l3,show Aw (.len false) [.Cm (h.length+1) 0 1 13]=some (I 1) from rfl]
  have r2:BE cx 43 [Pt h.length 0,I 1] H3 (.ptr (some (h.length+1,0))) H3:=by rw[Ab,iS,t43];simp only[Az,Bi,l3,show Aw (.int .sub) [I 1,I 1]=some (I 0) from rfl,e4]
  rw[Ab,iP,t13];simp only[Az,Nat.reduceLeDiff,↓reduceIte,AI,Bi,r1.call,r2.call,s3]
 .intro p hp;rw[Fl] at hp;subst hp;exact .inl ⟨rfl,rfl⟩
 .simp[Fi,GK]
 .unfold Ar.inr;split
  .rename_i hh;have h1:=hh.1;have h2:=hh.2;simp[ZK] at h2;have:k=1:=by omega
   subst this;rfl
  .rfl
theorem aHu(h:Ae)(q:Bool):∃h1 h2 h' bi G,BE cx 12 [] h (Pt h.length 0) h1/\BE cx 13 [Pt h.length 0,.bool q] h1 (I 1) h2/\BE cx 15 [Pt h.length 0,I 1] h2 (Pt bi 0) h'/\BX h' bi h.length .slnil .slnil .slnil G (CV q)/\Df h (λ_=>False) h' (own bi G):=by
 obtain⟨h1,h2,r1,r2,wa,eh⟩:=aHt h q;obtain⟨r,t,r3,K,V,rfl,hK,hV,_⟩:=qe (x:=1) wa ((LJ q).rm.Tq) ((LJ q).rm.Tq.AZ (Nc q).ok 1);have hx:(ZK q).has 1:=⟨Fq 1,Fq 1⟩;have kR:(ZK q).nd 1={kind:=1,Cy:=1,Cb:=q}:=(LI (q:=q) 1).trans (if_pos rfl);rw[if_pos hx,kR] at r3;have wt:PA (h2++t) _ _ _ _ _:=wa.CP λi hi=>Ad (wa.lt i hi);refine⟨h1,h2,h2++t++[.cells (EI h.length (CV q) .slnil .slnil .slnil)],(h2++t).length,λi=>i∈Fi h.length (h.length+1) none [⟨{kind:=1,Cy:=1,Cb:=q},.slnil,.slnil,rfl⟩],r1,r2,?_,⟨by simp,.inr ⟨rfl,rfl⟩,.inr ⟨rfl,rfl⟩,?_,?_⟩,?_⟩;·rw[Ab,Vw,t15];simp only[Az,Nat.reduceLeDiff,↓reduceIte,AI,Bi,r3.call,aaS];exact⟨λh=>absurd rfl h,λ_=>⟨λh=>absurd rfl h,λ_=>rfl⟩⟩
 .exact⟨_,_,_,wt.CP λi hi=>Ad (wt.lt i hi),λi=>Iff.rfl⟩
 .intro hm;exact absurd (wt.lt _ hm) (C8 _)
 .have DW:h.length<=h2.length:=by rw[eh];simp
  refine⟨by simp;omega,λi hi _=>?_,λi hi=> .inr ?_⟩;·rw[AB,Ad (by omega),eh,Ad hi]
  .rcases hi with rfl|hi
   .simp;omega
   .simp[Fi,GK] at hi;omega
theorem bm(sp:Int)(nm:As)(l:List AW)(q:Bool):DG (Ih sp nm l q)/\Sz (Ih sp nm l q) 100:=by
 refine⟨?_,?_⟩
 .obtain⟨TA,f,le1⟩:=Mp (nm:=Dc) (at_:=[]) (p:=1) (Nc q) IP;have a_:=TA.Jl (M4 (n:=((CV q).FE Dc [] 1).node) (p:=1) (b:=0) TA.ok) H6;have l2:Le ((CV q).D9 Dc [] 1 1).a (((CV q).D9 Dc [] 1 1).a.D0 ((CV q).FE Dc [] 1).node 1 0):=H6;have ho:((CV q).D9 Dc [] 1 1).AR=[]:=by unfold BS.D9;rw[if_pos IP];rfl
  have xb:=a_.V_ (i:=(CV q).FE Dc [] 1) (k:=0) ⟨l2.has _ f.has,by rw[l2.kind _ f.has];exact f.kind,by rw[l2.AX _ f.has];exact f.AX,by rw[l2.name _ f.has];exact f.name⟩ (by simp only[ho];simp);exact xb.of_eq rfl rfl (by unfold Ih;simp only[ho];rfl) rfl
 .have sz:=LJ q;have e:((CV q).D9 Dc [] 1 1).AR=[]/\((CV q).D9 Dc [] 1 1).A4=[]:=by unfold BS.D9;rw[if_pos IP];exact⟨rfl,rfl⟩
  have r1:=H7 (m:=5000000*100+1) (nm:=Dc) (l:=[]) (sp:=1) (p:=1) (sz.rm.le (by omega)) ⟨by decide,λa ha=>(nomatch ha)⟩;have r2:=r1.Jl (IZ (x:=((CV q).FE Dc [] 1).node) (p:=1) (bf:=0));have r3:=r2.vh (i:=(CV q).FE Dc [] 1) (l':=((CV q).D9 Dc [] 1 1).AR++[(CV q).FE Dc [] 1]) (by simp) (λj hj=>by simpa using hj) (Ms (by decide));exact⟨⟨r3.n,r3.at_,r3.data,r3.AR,r3.A4,r3.tm,r3.Dl,r3.Wk⟩,by unfold Ih;simp only[e.1];show 1+1200*100<=125000;decide,by unfold Ih;simp only[e.2];decide⟩
theorem V0(sp:Int)(nm:As)(l:List AW)(q:Bool):DG (Ki sp nm l q)/\Sz (Ki sp nm l q) 100:=by
 obtain⟨xb,sz3⟩:=bm sp nm l q;unfold Ki;split;·have r:=sz3.rm;exact⟨xb.of_eq rfl rfl rfl rfl,⟨⟨r.n,r.at_,r.data,r.AR,r.A4,by simp,r.Dl,r.Wk⟩,sz3.AR,sz3.A4⟩⟩
 .exact⟨xb,sz3⟩
theorem r_(sp:Int)(nm:As)(l:List AW)(q f:Bool):DG (Rk sp nm l q f)/\Sz (Rk sp nm l q f) 100:=by
 obtain⟨tZ,sa⟩:=V0 sp nm l q;have r5:BQ (Ki sp nm l q).HO (5000000*100):=sa.rm.mode;unfold Rk;split;·exact⟨(Q8 tZ).of_eq rfl rfl rfl rfl,⟨⟨r5.n,r5.at_,r5.data,r5.AR,r5.A4,r5.tm,r5.Dl,r5.Wk⟩,sa.AR,sa.A4⟩⟩
 .exact⟨Q8 tZ,⟨r5,sa.AR,sa.A4⟩⟩
theorem BX.bn(w:BX h bi a o c t G b)(i:Item):∃h',Cv h 4 (Pt bi 10) (.agg i.row)=some h'/\BX h' bi a o c t G {b with ctx:=i}/\Df h (own bi G) h' (own bi G):=by refine⟨h.set bi (.cells (EI a {b with ctx:=i} o c t)),?_,⟨AN w.lt,w.o,w.t,w.w.CP λj hj=>Aj λe=>w.nb (by rw[e];exact hj),w.nb⟩,⟨by rw[Bj];exact Ac _,λj _ hn=>Aj λe=>hn (.inl e.symm),λ_ h=> .inl h⟩⟩;simp only[Cv,w.hb];rfl
theorem aMj(h:Ae)(sp:Int)(nm:As)(hv:Bx l av)(hl:DL l)(q f q':Bool):∃h1 h2 h' bi o t G,BE cx 12 [] h (Pt h.length 0) h1/\BE cx 13 [Pt h.length 0,.bool q] h1 (I 1) h2/\BE cx 16 [Pt h.length 0,I 1,.agg [I sp,.str nm,av,.bool q',.bool f]] h2 (Pt bi 0) h'/\BX h' bi h.length o .slnil t G (Rk sp nm l q f)/\Df h (λ_=>False) h' (own bi G):=by
 obtain⟨h1,h2,h3,bi,G,r1,r2,r3,w,x⟩:=aHu h q;have hr:M8 Dc .slnil [I 2,.str Dc,ff,S [],ff,S [],ff,ff,.slnil,ff,S [],.int .i32 0]:=⟨I 2,ff,S [],ff,S [],ff,ff,ff,S [],.int .i32 0,rfl⟩;obtain⟨h4,G4,r4,w4,x4⟩:=az (m:=1000) w (Nc q) ((LJ q).rm.le (by omega)) hr (l:=[]) (.inr ⟨rfl,rfl⟩) ⟨by decide,λa ha=>(nomatch ha)⟩ (by decide) 1 1;obtain⟨tZ,f4,le4⟩:=Mp (nm:=Dc) (at_:=[]) (p:=1) (Nc q) IP;have rm4:=H7 (m:=1000) (nm:=Dc) (l:=[]) (sp:=1) (p:=1) ((LJ q).rm.le (by omega)) ⟨by decide,λa ha=>(nomatch ha)⟩;obtain⟨h5,G5,r5,w5,x5⟩:=cV (x:=((CV q).FE Dc [] 1).node) (p:=1) (bf:=0) w4 tZ rm4;have ho:((CV q).D9 Dc [] 1 1).AR=[]:=by unfold BS.D9;rw[if_pos IP];rfl
 obtain⟨u6,r6,hu6⟩:=f95 w5.sO (by simp only[ho];decide) ((CV q).FE Dc [] 1);have w6:=w5.Ia hu6;have w7:BX (put (put h5 bi 2 u6) bi 9 tt) bi h.length u6 .slnil .slnil G5 _:=w6.put (k:=9) (v:=tt) (b':={{{(CV q).D9 Dc [] 1 1 with a:=((CV q).D9 Dc [] 1 1).a.D0 ((CV q).FE Dc [] 1).node 1 0} with AR:=((CV q).D9 Dc [] 1 1).AR++[(CV q).FE Dc [] 1]} with Jj:=true}) rfl rfl hu6 w6.t;have s7:Cv (put h5 bi 2 u6) 1 (Pt bi 9) tt=some (put (put h5 bi 2 u6) bi 9 tt):=w6.st (k:=9) (v:=tt) (v0:= .bool ((CV q).D9 Dc [] 1 1).Jj) rfl rfl;have r8:BE cx 49 [I sp,.str nm,av] (put (put h5 bi 2 u6) bi 9 tt) (.bool (EH sp nm l)) (put (put h5 bi 2 u6) bi 9 tt):=f96 hv (λa ha=>by have:=(hl.2 a ha).2;have:AS=140737488355328:=rfl;omega) (by have:=hl.1;omega) sp nm _;obtain⟨h8,s8,w8,x8⟩:=w7.bn ⟨0,sp,nm,EH sp nm l⟩;have xe:BX h8 bi h.length u6 .slnil .slnil G5 (Ih sp nm l q):=w8;have xc:Df h (λ_=>False) h8 (own bi G5):=((((x.trans x4).trans x5).trans Bd).trans Bd).trans x8;clear w8;have l10:=xe.sN;have aCt:(Ih sp nm l q).ctx=⟨0,sp,nm,EH sp nm l⟩:=rfl;obtain⟨aMk,sa⟩:=V0 sp nm l q;have r9:=jF (ws:=[A5]) CR (by decide) (Ih sp nm l q).ctx h8;have key:∃h9 t9,BX h9 bi h.length u6 .slnil t9 G5 (Ki sp nm l q)/\Df h8 (own bi G5) h9 (own bi G5)/\(Bp [A5] (Ih sp nm l q).ctx=true->Cv h8 1 (Pt bi 6) (.sl 1 [[I 18]])=some h9)/\(Bp [A5] (Ih sp nm l q).ctx=false->h9=h8):=by
  by_cases hT:Bp [A5] (Ih sp nm l q).ctx=true;·have hu:Dh [18] (.sl 1 [[I 18]]):= .mk;refine⟨put h8 bi 6 (.sl 1 [[I 18]]),.sl 1 [[I 18]],?_,Bd,λ_=>xe.st (k:=6) (v0:= .slnil) rfl rfl,λh=>absurd hT (by rw[h];decide)⟩;unfold Ki;rw[if_pos hT];exact xe.jI hu
  .refine⟨h8,.slnil,?_,.refl,λh=>absurd h hT,λ_=>rfl⟩;unfold Ki;rw[if_neg hT];exact xe
 obtain⟨h9,t9,w9,x9,k1,k2⟩:=key;obtain⟨VK,pJ,Sk,pL⟩:=qq w9 sa.rm;have em:Aw (.By 1) [I 18]=some (.sl 1 [[I 18]]):=rfl;have xx:Df h (λ_=>False) VK (own bi G5):=(xc.trans x9).trans pL;have hir:((CV q).FE Dc [] 1).row=[I ((CV q).FE Dc [] 1).node,I ((CV q).FE Dc [] 1).AX,.str ((CV q).FE Dc [] 1).name,.bool ((CV q).FE Dc [] 1).No]:=rfl;generalize(CV q).FE Dc [] 1=it at*;have bo:Cv (put (put h5 bi 2 u6) bi 9 tt) 4 (Pt bi 10) (.agg [I 0,I sp,.str nm,.bool (EH sp nm l)])=some h8:=s8;have sL:Aw (.By 1) [S aSI]=some (.sl 1 ([A5].map CH)):=dA;cases hT:Bp [A5] (Ih sp nm l q).ctx with
 |true=>
  rw[hT] at r9;have xf:=k1 hT;cases f with
  |true=>
   refine⟨h1,h2,put VK bi 8 (I (-1)),bi,u6,t9,G5,r1,r2,?_,?_,xx.trans Bd⟩;·rw[Ab,Qb,vn];simp only[Az,Nat.reduceLeDiff,↓reduceIte,AI,Bi,EB,r3.call,r4.call,r5.call,r6.call,s7,r8.call,bo,l10,sL,r9.call,em,xf,pJ.call,Sk.st (k:=8) (v:=I (-1)) rfl rfl]
   .unfold Rk;rw[if_pos rfl];exact Sk.put rfl rfl Sk.o Sk.t
  |false=>refine⟨h1,h2,VK,bi,u6,t9,G5,r1,r2,?_,Sk,xx⟩;rw[Ab,Qb,vn];simp only[Az,Nat.reduceLeDiff,↓reduceIte,AI,Bi,EB,r3.call,r4.call,r5.call,r6.call,s7,r8.call,bo,l10,sL,r9.call,em,xf,pJ.call]
 |false=>
  rw[hT] at r9;have xg:=k2 hT;subst xg;cases f with
  |true=>
   refine⟨h1,h2,put VK bi 8 (I (-1)),bi,u6,t9,G5,r1,r2,?_,?_,xx.trans Bd⟩;·rw[Ab,Qb,vn];simp only[Az,Nat.reduceLeDiff,↓reduceIte,AI,Bi,EB,r3.call,r4.call,r5.call,r6.call,s7,r8.call,bo,l10,sL,r9.call,em,pJ.call,Sk.st (k:=8) (v:=I (-1)) rfl rfl]
   .unfold Rk;rw[if_pos rfl];exact Sk.put rfl rfl Sk.o Sk.t
  |false=>refine⟨h1,h2,VK,bi,u6,t9,G5,r1,r2,?_,Sk,xx⟩;rw[Ab,Qb,vn];simp only[Az,Nat.reduceLeDiff,↓reduceIte,AI,Bi,EB,r3.call,r4.call,r5.call,r6.call,s7,r8.call,bo,l10,sL,r9.call,em,pJ.call]
theorem aMl(h:Ae)(s:DU)(hv:Bx s.Ax av)(hl:DL s.Ax):∃h' bi a o c t G,BE cx 8 [.agg (O4 s av)] h (Pt bi 0) h'/\BX h' bi a o c t G s.b/\BO s.b.A4 c/\Df h (λ_=>False) h' (own bi G):=by
 have fV:(Ih s.AX s.name s.Ax s.Cb).A4=[]:=by unfold Ih;simp only;unfold BS.D9;rw[if_pos IP];rfl
 cases hf:s.Jj with
 |true=>
  obtain⟨h1,h2,h',bi,o,t,G,r1,r2,r3,w,x⟩:=aMj h s.AX s.name hv hl s.Cb s.Kv s.Cb;refine⟨h',bi,h.length,o,.slnil,t,G,?_,by unfold DU.b;rw[if_pos hf];exact w,?_,x⟩;·rw[Ab,yC,t8,O4,hf];simp only[Az,r1.call,r2.call,r3.call]
  .have e:s.b.A4=[]:=by unfold DU.b Rk Ki;rw[if_pos hf];split<;>split<;>exact fV
   rw[e];exact⟨[],rfl,.inr ⟨rfl,rfl⟩⟩
 |false=>
  obtain⟨h1,h2,h',bi,G,r1,r2,r3,w,x⟩:=aHu h s.Cb;have e:s.b=CV s.Cb:=by unfold DU.b;rw[if_neg (by rw[hf];decide)]
  refine⟨h',bi,h.length,.slnil,.slnil,.slnil,G,?_,by rw[e];exact w,by rw[e];exact⟨[],rfl,.inr ⟨rfl,rfl⟩⟩,x⟩;rw[Ab,yC,t8,O4,hf];simp only[Az,r1.call,r2.call,r3.call]
theorem DU.ok(s:DU):DG s.b/\Sz s.b 100:=by
 unfold DU.b;split;·exact r_ _ _ _ _ _
 .have h:=LJ s.Cb;exact⟨Nc _,⟨h.rm.le (by omega),by have:=h.AR;omega,by have:=h.A4;omega⟩⟩
end
def LK(h:Ae)(lo:Nat)(v:Aa)(l:List Int):Prop:=(v= .slnil/\l=[])\/∃id,lo<=id/\v= .Cm id 0 l.length 1/\h[id]?=some (.cells (l.map (Aa.int .i64)))
def Lm(h:Ae)(lo:Nat)(v:Aa)(l:List Cd):Prop:=(v= .slnil/\l=[])\/∃id,∃fs:List B3,lo<=id/\v= .Cm id 0 fs.length 3/\h[id]?=some (.cells (fs.map B3.row).flatten)/\fs.map (·.c)=l
section
variable{h h':Ae}{lo lo':Nat}{v:Aa}
theorem LK.cells{l:List Int}(hv:LK h lo v l):v.cells=[v]:=by rcases hv with⟨rfl,_⟩|⟨id,_,rfl,_⟩<;>rfl
theorem Lm.cells{l:List Cd}(hv:Lm h lo v l):v.cells=[v]:=by rcases hv with⟨rfl,_⟩|⟨id,fs,_,rfl,_⟩<;>rfl
theorem LK.CP{l:List Int}(hv:LK h lo v l)(hf:∀i,lo<=i->i<h.length->h'[i]?=h[i]?):LK h' lo v l:=by
 rcases hv with hv|⟨id,h1,h2,h3⟩
 .exact .inl hv
 .exact .inr ⟨id,h1,h2,by rw[hf id h1 (Ah.1 h3).1];exact h3⟩
theorem Lm.CP{l:List Cd}(hv:Lm h lo v l)(hf:∀i,lo<=i->i<h.length->h'[i]?=h[i]?):Lm h' lo v l:=by
 rcases hv with hv|⟨id,fs,h1,h2,h3,h4⟩
 .exact .inl hv
 .exact .inr ⟨id,fs,h1,h2,by rw[hf id h1 (Ah.1 h3).1];exact h3,h4⟩
theorem Lm.low{l:List Cd}(hv:Lm h lo v l)(hl:lo'<=lo):Lm h lo' v l:=by
 rcases hv with hv|⟨id,fs,h1,h2⟩
 .exact .inl hv
 .exact .inr ⟨id,fs,by omega,h2⟩
theorem LK.Sd{l:List Int}(hv:LK h lo v l):Qe h v l:=by
 rcases hv with⟨rfl,rfl⟩|⟨id,_,rfl,hc⟩
 .exact⟨rfl,λk hk=>by simp at hk⟩
 .refine⟨rfl,λk hlt=>⟨Pt id k,by have:=EZ (id:=id) (z:=1) (k:= .i64) hlt;rwa [Kk] at this,?_⟩⟩;simp only[Bb,hc,Et];simp[hlt]
theorem xh{h u:Ae}{V:Aa}{L:List Int}(hV:LK (h++u) h.length V L)(hb:L.length<=1000000000)(x:Int):∃u' V',Fo (h++u) 1 8 V (.sl 1 [[I x]])=some (h++u',V')/\LK (h++u') h.length V' (L++[x]):=by
 have aX:AS=140737488355328:=rfl;rcases hV with⟨rfl,rfl⟩|⟨id,Hj,rfl,hc⟩
 .exact⟨u++[.cells [I x]],.Cm (h++u).length 0 1 1,by rw[<-AB];rfl,.inr ⟨(h++u).length,by simp,rfl,by simp⟩⟩
 .have hr:∀r∈L.map Cc,r.length=1:=K9 (f:=Cc) (λ_=>rfl) L;have J4:(h++u)[id]?=some (.cells (L.map Cc).flatten):=by rw[Mv];exact hc
  have hg:=IF (b:=8) (Au:=L.map Cc) (r2:=[[I x]]) (v:= .sl 1 [[I x]]) hr (by decide) J4 .mk (by simp) (by rw[Ai];simp;omega);rw[Ai] at hg;have e:(h++u).set id .CG++[De.cells (L.map Cc++[[I x]]).flatten]=h++(u.set (id-h.length) .CG++[.cells ((L++[x]).map (Aa.int .i64))]):=by rw[B2 _ _ Hj,AB,Wm,Mv,BI];rfl
  rw[e] at hg;have Xp:(h++(u.set (id-h.length) De.CG++[.cells ((L++[x]).map (Aa.int .i64))]))=(h++u.set (id-h.length) De.CG)++[.cells ((L++[x]).map (Aa.int .i64))]:=by rw[AB]
  have ZG:(h++u.set (id-h.length) De.CG).length=(h++u).length:=by simp
  refine⟨_,_,hg,.inr ⟨(h++u).length,by simp,by simp,?_⟩⟩;rw[Xp,<-ZG,Bg (Ac _),DB];rfl
theorem aHw{h u:Ae}{V:Aa}{L:List Cd}(hV:Lm (h++u) h.length V L)(hb:L.length<=1000000000)(x:B3):∃u' V',Fo (h++u) 3 48 V (.sl 3 [x.row])=some (h++u',V')/\Lm (h++u') h.length V' (L++[x.c]):=by
 have aX:AS=140737488355328:=rfl;rcases hV with⟨rfl,rfl⟩|⟨id,fs,Hj,rfl,hc,rfl⟩
 .exact⟨u++[.cells (([x]:List B3).map B3.row).flatten],.Cm (h++u).length 0 1 3,by rw[<-AB];rfl,.inr ⟨(h++u).length,[x],by simp,rfl,by simp,rfl⟩⟩
 .rw[Ai] at hb;have hg:=IF (b:=48) (Au:=fs.map B3.row) (r2:=[x.row]) (v:= .sl 3 [x.row]) (M2 fs) (by decide) hc .mk (by simp) (by rw[Ai];simp;omega);rw[Ai] at hg;have e:(h++u).set id .CG++[.cells (fs.map B3.row++[x.row]).flatten]=h++(u.set (id-h.length) .CG++[.cells ((fs++[x]).map B3.row).flatten]):=by rw[B2 _ _ Hj,AB,BI];rfl
  rw[e] at hg;have Xp:(h++(u.set (id-h.length) De.CG++[.cells ((fs++[x]).map B3.row).flatten]))=(h++u.set (id-h.length) De.CG)++[.cells ((fs++[x]).map B3.row).flatten]:=by rw[AB]
  have ZG:(h++u.set (id-h.length) De.CG).length=(h++u).length:=by simp
  refine⟨_,_,hg,.inr ⟨(h++u).length,fs++[x],by simp,by simp,?_,by simp⟩⟩;rw[Xp,<-ZG,Bg (Ac _),DB];rfl
end
structure SS where
 mode:Int
 Tp:Int
 tm:List Int
 AR:List Int
 A4:List Cd
 head:Int
 Kv:Int
 fs:Bool
 Ei:Bool
 cE:As
 skip:Bool
 sw:Int
 stop:Bool
def BS.OZ(b:BS):SS:=⟨b.mode,b.Tp,b.tm,b.AR.map Item.node,b.A4,b.head,b.Kv,b.fs,b.Ei,b.cE,b.skip,b.sw,b.stop⟩
def LL(s:SS)(t o c:Aa):List Aa:=[I s.mode,I s.Tp,t,o,c,I s.head,I s.Kv,.bool s.fs,.bool s.Ei,.str s.cE,.bool s.skip,I s.sw,.bool s.stop]
structure Pz(h:Ae)(lo:Nat)(s:SS)(t o c:Aa):Prop where
 t:Dh s.tm t
 o:LK h lo o s.AR
 c:Lm h lo c s.A4
section
variable{h h':Ae}{bi a lo:Nat}{o c t:Aa}{G G' F:Nat->Prop}{b:BS}{x:Int}{m:Nat}
theorem Pz.CP{s:SS}(w:Pz h lo s t o c)(hf:∀i,lo<=i->i<h.length->h'[i]?=h[i]?):Pz h' lo s t o c:=⟨w.t,w.o.CP hf,w.c.CP hf⟩
theorem jR{h:Ae}{n:Nat}(hn:n<=1000000000):Uf h 3 48 [I 0,S [],.slnil] (I (n:Int)) (I (n:Int))=some (h++[.cells (List.replicate n [I 0,S [],.slnil]).flatten],.Cm h.length 0 n 3):=by
 have hm:AS=140737488355328:=rfl;unfold Uf;simp only
 rw[if_pos ⟨by omega,by omega,by omega,rfl⟩];rfl
theorem aHx(w:BX h bi a o c t G b)(hc:BO b.A4 c)(rm:BQ b m):∃t' o' c' u,BE cx 17 [Pt bi 0] h (.agg (LL b.OZ t' o' c')) (h++u)/\Pz (h++u) h.length b.OZ t' o' c':=by
 have aX:AS=140737488355328:=rfl;have ho:=rm.AR;have Rs:=rm.A4;have htm:=rm.tm;obtain⟨t',e0,FJ⟩:=aG5 w.t (by omega) h;have htc:t'.cells=[t']:=AL.cells FJ;obtain⟨fs,Gr,hv⟩:=hc;have GI:b.A4.length=fs.length:=by rw[<-Gr,Ai]
 have lo1:=AL.Cq w.o;have Ik:Ev cx 17 [Pt bi 0] h λr h'=>∃t' o' c' u,r= .agg (LL b.OZ t' o' c')/\h'=h++u/\Pz (h++u) h.length b.OZ t' o' c':=by
  unfold Ev;rw[yE,t17];simp only[Az,Nat.reduceLeDiff,↓reduceIte,AI,Bi,(HC w).call,w.ld,EI,e0.call,Bv,htc,lo1];refine Ej (i:=0) (λz:Aa×Nat=>[.agg [I b.mode,I b.Tp,t',z.1,.slnil,I b.head,I b.Kv,.bool b.fs,.bool b.Ei,.str b.cE,.bool b.skip,I b.sw,.bool b.stop],I (z.2:Int)]) (λz h1=>z.2<=b.AR.length/\∃u,h1=h++u/\LK (h++u) h.length z.1 ((b.AR.take z.2).map Item.node)) (λz=>b.AR.length-z.2) (λz h1=>∃u,h1=h++u/\LK (h++u) h.length z.1 (b.AR.map Item.node)) (.slnil,0) rfl ⟨AO _,[],by simp,.inl ⟨rfl,by simp⟩⟩ ?_ ?_
  .rintro⟨V,n⟩ h1 ⟨hn,u,rfl,hV⟩;simp only at hn hV;have hVc:=hV.cells;rcases AT n b.AR.length with hlt|D2
   .have e1:=AL.Bz (k:= .i64) w.o hlt;rw[Item.row] at e1;obtain⟨u',V',g1,hV'⟩:=xh hV (by rw[Ai,Al];omega) b.AR[n].node;have hV'c:=hV'.cells;have em:Aw (.By 1) [I b.AR[n].node]=some (.sl 1 [[I b.AR[n].node]]):=rfl;simp only[Az,Nat.reduceLeDiff,↓reduceIte,Bi,show(n:Int)<(b.AR.length:Int) by omega,e1,em,g1,hV'c,BG (show n<9223372036854775807 by omega)];exact .next (V',n+1) rfl ⟨hlt,u',rfl,by rw[Av hlt,BI];exact hV'⟩ (by simp only;omega)
   .rw[Ay D2] at hV;simp only[Az,↓reduceIte,Bi,show¬(n:Int)<(b.AR.length:Int) by omega];exact .Hy (V,n) rfl ⟨u,rfl,hV⟩
  .rintro⟨O,n0⟩ h1 ⟨u,rfl,hO⟩;simp only at hO;have hOc:=hO.cells;have w1:=w.HB (u:=u);have l31:=w1.l3;have lc:=AL.Cq hv;simp only[Az,↓reduceIte,Bi,l31,lc];refine yg (jR (h:=h++u) (n:=fs.length) (by omega)) ?_;obtain⟨H0,hH0⟩:∃H0,H0=h++u:=⟨_,rfl⟩;rw[<-hH0] at hO⊢;have c0:(H0++[De.cells (List.replicate fs.length [I 0,S [],.slnil]).flatten])[H0.length]?=some (.cells (List.replicate fs.length [I 0,S [],.slnil]).flatten):=by simp
   have l32:Bb (H0++[De.cells (List.replicate fs.length [I 0,S [],.slnil]).flatten]) none (Pt bi 3)=some c:=by rw[hH0];exact(w1.HB).l3
   have qw:(List.replicate fs.length [I 0,S [],Aa.slnil]).flatten.length=fs.length*3:=by rw[Fe (z:=3) (by intro r hr;rw[(List.mem_replicate.1 hr).2];rfl),Iq]
   have cp:Ep (.copy 3) (H0++[De.cells (List.replicate fs.length [I 0,S [],.slnil]).flatten]) [.Cm H0.length 0 fs.length 3,c]=some (H0++[De.cells (fs.map B3.row).flatten],I (fs.length:Int)):=by
    have er:Gi (H0++[De.cells (List.replicate fs.length [I 0,S [],.slnil]).flatten]) 3 c=some (fs.map B3.row):=by
     rcases hv with rfl|⟨rfl,h0⟩
     .simp[Gi]
     .rw[h0];rfl
    simp only[Ep,kG,er,c0];rw[if_pos ⟨trivial,by simp,by rw[qw];omega⟩];have h1:(List.replicate fs.length [I 0,S [],Aa.slnil]).flatten.drop (0+(fs.map B3.row).length*3)=[]:=A3 (by rw[qw,Ai];omega);rw[h1,L0,BH,BB,Ai,B2 _ _ (Ac _),DB];rfl
   have lm:Aw (.len false) [.Cm H0.length 0 fs.length 3]=some (I (fs.length:Int)):=rfl;simp only[Az,↓reduceIte,Bi,l32,cp,lm];refine Ej (i:=2) (λn:Nat=>[I (n:Int)]) (λn h1=>n<=fs.length/\∃GZ:List B3,h1=H0++[.cells (GZ.map B3.row).flatten]/\GZ.length=fs.length/\GZ.map (·.c)=b.A4) (λn=>fs.length-n) (λn h1=>∃GZ:List B3,h1=H0++[.cells (GZ.map B3.row).flatten]/\GZ.length=fs.length/\GZ.map (·.c)=b.A4) 0 rfl ⟨AO _,fs,rfl,rfl,Gr⟩ ?_ ?_
   .rintro n h1 ⟨hn,GZ,rfl,TX,sQ⟩;rcases AT n fs.length with hlt|D2
    .have Qf:n<GZ.length:=by omega
     have ef:GZ[n].c=b.A4[n]'(by omega):=by simp only[<-sQ,CY]
     have hal:=(rm.Dl GZ[n].c (by rw[ef];exact AJ _)).2.1;have e1:Aw (.Fm 3) [.Cm H0.length 0 fs.length 3,I (n:Int)]=some (Pt H0.length (n*3)):=EZ hlt;have cc:(H0++[De.cells (GZ.map B3.row).flatten])[H0.length]?=some (.cells (GZ.map B3.row).flatten):=by simp
     have hg:(GZ.map B3.row)[n]?=some GZ[n].row:=by rw[Cp,Af Qf];rfl
     have l2:Bb (H0++[De.cells (GZ.map B3.row).flatten]) none (Pt H0.length (n*3+2))=some GZ[n].v:=by simp only[Bb,cc,Et];exact Ke (M2 GZ) (by decide) hg
     obtain⟨av,r1,Wr⟩:=f45 (h:=H0++[De.cells (GZ.map B3.row).flatten]) GZ[n].ok (by omega);have aCu:av.cells=[av]:=AL.cells Wr;have s1:Cv (H0++[De.cells (GZ.map B3.row).flatten]) 1 (Pt H0.length (n*3+2)) av=some (H0++[.cells ((GZ.set n ⟨GZ[n].c,av,Wr⟩).map B3.row).flatten]):=by have e:=Mt (Au:=GZ.map B3.row) (i:=n) (k:=2) (v:=av) (M2 GZ) (by simpa using Qf) (by decide);simp only[Cv,cc,aCu,Bs,NC];rw[if_pos (by rw[Fe (M2 GZ),Ai];omega),e,B2 _ _ (Ac _),DB,Fk,CY];rfl
     simp only[Az,Bi,show(n:Int)<(fs.length:Int) by omega,e1,l2,r1.call,s1,BG (show n<9223372036854775807 by omega)];refine .next (n+1) rfl ⟨hlt,_,rfl,by rw[Bj];exact TX,?_⟩ (by omega)
     rw[Fk,sQ];have zX:n<b.A4.length:=by omega
     show b.A4.set n GZ[n].c=b.A4;rw[ef,Ru]
    .simp only[Az,Bi,show¬(n:Int)<(fs.length:Int) by omega];exact .Hy n rfl ⟨GZ,rfl,TX,sQ⟩
   .rintro n h1 ⟨GZ,rfl,TX,sQ⟩;simp only[Az,↓reduceIte];refine⟨_,rfl,t',O,.Cm H0.length 0 fs.length 3,u++[.cells (GZ.map B3.row).flatten],rfl,by rw[hH0,AB],FJ,?_,?_⟩;·rw[<-AB,<-hH0];exact hO.CP λi _ hi=>Ad hi
    .rw[<-AB,<-hH0];exact .inr ⟨H0.length,GZ,by rw[hH0];simp,by rw[TX],by simp,sQ⟩
 obtain⟨r,h',hr,t',o',c',u,rfl,rfl,hs⟩:=Ik.ret;exact⟨t',o',c',u,hr,hs⟩
end
def PB(h:Ae)(bi:Nat)(b:BS)(F:Nat->Prop):Prop:=∃a o c t G,BX h bi a o c t G b/\BO b.A4 c/\F=own bi G
structure Fin(b:BS)(j:Nat):Prop where
 ok:DG b
 sz:Sz b j
section
variable{h h':Ae}{bi wi:Nat}{b:BS}{F F2:Nat->Prop}{q:dI}{av:Aa}{j:Nat}
theorem PB.lt(w:PB h bi b F){i:Nat}(hi:F i):i<h.length:=by
 obtain⟨a,o,c,t,G,w,_,rfl⟩:=w;rcases hi with rfl|hi
 .exact w.lt
 .exact w.w.lt hi
theorem PB.CP(w:PB h bi b F)(hf:∀i,F i->h'[i]?=h[i]?):PB h' bi b F:=by obtain⟨a,o,c,t,G,w,hc,rfl⟩:=w;exact⟨a,o,c,t,G,w.CP hf,hc,rfl⟩
theorem PB.HB(w:PB h bi b F){u:Ae}:PB (h++u) bi b F:=w.CP λi hi=>Ad (w.lt hi)
theorem aMn(w:PB h bi b F)(f:Fin b (j+1))(hq:bk q)(hv:Bx q.Ax av):∃h' F',BE cx 23 [Pt bi 0,.agg (Kz q av)] h (.agg (VV b q).2.row) h'/\PB h' bi (VV b q).1 F'/\Df h F h' F':=by obtain⟨a,o,c,t,G,w,hc,rfl⟩:=w;obtain⟨h',o',c',t',G',r,w',J4,x⟩:=aMi w hc f.ok f.sz hq hv;exact⟨h',_,r,⟨a,o',c',t',G',w',J4,rfl⟩,x⟩
theorem aMo(s:DU)(hv:Bx s.Ax av)(hl:DL s.Ax)(h:Ae):∃h' bi F,BE cx 8 [.agg (O4 s av)] h (Pt bi 0) h'/\PB h' bi s.b F/\Df h (λ_=>False) h' F:=by obtain⟨h',bi,a,o,c,t,G,r,w,hc,x⟩:=aMl h s hv hl;exact⟨h',bi,_,r,⟨a,o,c,t,G,w,hc,rfl⟩,x⟩
end
structure QO where
 q:dI
 v:Aa
 ok:Bx q.Ax v
def QO.row(x:QO):List Aa:=Kz x.q x.v
theorem QO.Co{x:QO}:x.row.length=9:=rfl
theorem QO.GA{x:QO}:x.row.take 9=x.row:=rfl
def bq(l:List QO)(v:Aa):Prop:=AL 9 (l.map QO.row) v
noncomputable def Oo:BS->List QO->BS
 |b,[]=>b
 |b,x::l=>Oo (VV b x.q).1 l
theorem V4:∀{l:List QO} {b:BS} {x:QO},Oo b (l++[x])=(VV (Oo b l) x.q).1
 |[],_,_=>rfl
 |y::l,b,x=>by rw[CB,Oo,V4,Oo]
structure jS(h:Ae)(v:Aa)(fs:List B3):Prop where
 len:Aw (.len false) [v]=some (I (fs.length:Int))
 at_:∀k (hk:k<fs.length),∃id o,Aw (.Fm 3) [v,I (k:Int)]=some (Pt id o)/\Bb h none (Pt id o)=some (I fs[k].c.node)/\Bb h none (Pt id (o+1))=some (.str fs[k].c.name)/\Bb h none (Pt id (o+2))=some fs[k].v
def xi(h:Ae)(x:Eh)(r:List Aa):Prop:=∃K V,r=[I x.kind,I x.E8,K,I x.Cy,I x.AX,.str x.name,V,.str x.data,.str x.pub,.str x.sys,.bool x.Cb,I x.cont,I x.DT]/\Qe h K x.AZ/\LH h V x.Ax/\K.cells=[K]/\V.cells=[V]
def V5(h:Ae)(v:Aa)(l:List Eh):Prop:=∃Au:List (List Aa),AL 13 Au v/\Au.length=l.length/\∀k (h1:k<Au.length) (h2:k<l.length),xi h l[k] Au[k]
def V6(h:Ae)(lo:Nat)(v:Aa)(l:List Eh):Prop:=∃Au:List (List Aa),AL 13 Au v/\Au.length=l.length/\∀k (h1:k<Au.length) (h2:k<l.length),Tz h lo l[k] Au[k]
section
variable{h h':Ae}{lo lo':Nat}{v v':Aa}
theorem Lm.at_{l:List Cd}(hv:Lm h lo v l):∃fs:List B3,fs.map (·.c)=l/\jS h v fs:=by
 rcases hv with⟨rfl,rfl⟩|⟨id,fs,_,rfl,hc,e⟩
 .exact⟨[],rfl,rfl,λk hk=>by simp at hk⟩
 .refine⟨fs,e,rfl,λk hk=>⟨id,k*3,EZ hk,?_⟩⟩;have hg:(fs.map B3.row)[k]?=some fs[k].row:=by rw[Cp,Af hk];rfl
  have ld:∀j,j<3->Bb h none (Pt id (k*3+j))=fs[k].row[j]?:=λj hj=>by simp only[Bb,hc,Et];exact Ke (M2 fs) hj hg
  have l0:=ld 0 (by decide);rw[Bn] at l0;exact⟨l0,ld 1 (by decide),ld 2 (by decide)⟩
theorem Up.le{N N':Nat}(hu:Up N v)(hl:N'<=N):Up N' v:=λid k e=>Bt hl (hu id k e)
theorem Tz.rd{x:Eh}{r:List Aa}(hr:Tz h lo x r):xi h x r:=let⟨K,V,e,h1,h2,_⟩:=hr;⟨K,V,e,h1.Sd,h2.in_,AL.cells h1,h2.cells⟩
theorem Tz.low{x:Eh}{r:List Aa}(hr:Tz h lo x r)(hl:lo'<=lo):Tz h lo' x r:=let⟨K,V,e,h1,h2,h3⟩:=hr;⟨K,V,e,h1,h2,h3.le hl⟩
theorem V6.rd{l:List Eh}(hv:V6 h lo v l):V5 h v l:=let⟨Au,h1,h2,h3⟩:=hv;⟨Au,h1,h2,λk a b=>(h3 k a b).rd⟩
theorem f18{l:List Int}(hv:Qe h v l)(Du:Qe h v' l)(hb:l.length<=1000000000):BE cx 35 [v,v'] h tt h:=by
 rw[Ab,yK,t35];simp only[Az,Bi,hv.len,Du.len,ne_eq,Cu];refine A9 (λn:Nat=>[ff,I (n:Int)]) (λn h1=>n<=l.length/\h1=h) (λn=>l.length-n) 0 rfl ⟨AO _,rfl⟩ ?_;rintro n h1 ⟨hn,rfl⟩;rcases AT n l.length with hlt|D2
 .obtain⟨p,a1,a2⟩:=hv.at_ n hlt;obtain⟨p',b1,b2⟩:=Du.at_ n hlt;simp only[Az,Bi,hv.len,show(n:Int)<(l.length:Int) by omega,a1,a2,b1,b2,ne_eq,Cu,BG (show n<9223372036854775807 by omega)];exact AF.next (n+1) rfl ⟨hlt,rfl⟩ (by omega)
 .simp only[Az,Bi,hv.len,show¬(n:Int)<(l.length:Int) by omega]
theorem aHy(y:AW):Aw (.geq true [.i,.s,.s]) [.agg y.row,.agg y.row]=some (.bool false):=by rw[PY];simp[AW.row,DC,Km]
theorem aHz{l:List AW}(hv:LH h v l)(Du:LH h v' l)(hb:l.length<=1000000000):BE cx 299 [v,v'] h tt h:=by
 rw[Ab,pj,aFS];simp only[Az,Bi,hv.len,Du.len,ne_eq,Cu];refine A9 (λn:Nat=>[ff,I (n:Int)]) (λn h1=>n<=l.length/\h1=h) (λn=>l.length-n) 0 rfl ⟨AO _,rfl⟩ ?_;rintro n h1 ⟨hn,rfl⟩;rcases AT n l.length with hlt|D2
 .obtain⟨p,a1,a2⟩:=hv.at_ n hlt;obtain⟨p',b1,b2⟩:=Du.at_ n hlt;simp only[Az,Bi,hv.len,show(n:Int)<(l.length:Int) by omega,a1,a2,b1,b2,aHy,BG (show n<9223372036854775807 by omega)];exact AF.next (n+1) rfl ⟨hlt,rfl⟩ (by omega)
 .simp only[Az,Bi,hv.len,show¬(n:Int)<(l.length:Int) by omega]
theorem f87{fs sc:List B3}(hv:jS h v fs)(Du:jS h v' sc)(he:fs.map (·.c)=sc.map (·.c))(hb:fs.length<=1000000000)(ha:∀e∈fs,e.c.Ax.length<=1000000000):BE cx 55 [v,v'] h tt h:=by
 have hl:sc.length=fs.length:=by have:=Ce List.length he;simpa using this.symm
 have l1:=hv.len;have l2:=Du.len;rw[hl] at l2;rw[Ab,aAm,t55];simp only[Az,Bi,l1,l2,ne_eq,Cu];refine A9 (λn:Nat=>[ff,I (n:Int)]) (λn h1=>n<=fs.length/\h1=h) (λn=>fs.length-n) 0 rfl ⟨AO _,rfl⟩ ?_;rintro n h1 ⟨hn,rfl⟩;rcases AT n fs.length with hlt|D2
 .have Ra:n<sc.length:=by omega
  have ec:sc[n].c=fs[n].c:=by have:=Ce (λl=>l[n]?) he;simp only[Cp,Af hlt,Af Ra,BR,BC] at this;exact this.symm
  obtain⟨id,o,a1,a2,a3,a4⟩:=hv.at_ n hlt;obtain⟨Fa,o',b1,b2,b3,b4⟩:=Du.at_ n Ra;rw[ec] at b2 b3;have Wr:Bx fs[n].c.Ax fs[n].v:=fs[n].ok;have aHA:Bx fs[n].c.Ax sc[n].v:=by rw[<-ec];exact sc[n].ok
  have Wj:=ha _ (AJ hlt);have m1:=AL.Cq Wr;have m2:=AL.Cq aHA;generalize fs[n].v=av at*;generalize sc[n].v=jP at*;generalize fs[n].c.Ax=al at*;simp only[Az,Bi,l1,show(n:Int)<(fs.length:Int) by omega,a1,a2,a3,a4,b1,b2,b3,b4,ne_eq,Cu,m1,m2];refine A9 (λj:Nat=>[ff,I (j:Int)]) (λj h2=>j<=al.length/\h2=h1) (λj=>al.length-j) 0 rfl ⟨AO _,rfl⟩ ?_;rintro j h2 ⟨hj,rfl⟩;rcases AT j al.length with fE|hjg
  .have e1:=AL.Bz (k:= .i64) Wr fE;have e2:=AL.Bz (k:= .i64) aHA fE;have yv:(AW.row al[j]).length=3:=rfl;have ht3:(AW.row al[j]).take 3=AW.row al[j]:=rfl;simp only[Az,Bi,a1,a4,b1,b4,m1,show(j:Int)<(al.length:Int) by omega,e1,e2,yv,ht3,Ac,aHy,BG (show j<9223372036854775807 by omega)];exact AF.next (j+1) rfl ⟨fE,rfl⟩ (by omega)
  .simp only[Az,Bi,a1,a4,m1,show¬(j:Int)<(al.length:Int) by omega,BG (show n<9223372036854775807 by omega)];exact AF.next (n+1) rfl ⟨hlt,rfl⟩ (by omega)
 .simp only[Az,Bi,l1,show¬(n:Int)<(fs.length:Int) by omega]
theorem f22{s:SS}{t o c t' o' c':Aa}(w:Pz h lo s t o c)(w':Pz h lo' s t' o' c')(b1:s.tm.length<=1000000000)(b2:s.AR.length<=1000000000)(b3:s.A4.length<=1000000000)(b4:∀e∈s.A4,e.Ax.length<=1000000000):BE cx 18 [.agg (LL s t o c),.agg (LL s t' o' c')] h tt h:=by
 obtain⟨fs,e1,he⟩:=w.c.at_;obtain⟨sc,e1',O1⟩:=w'.c.at_;have r1:=f18 w.o.Sd w'.o.Sd b2;have r2:=f87 he O1 (e1.trans e1'.symm) (by rw[<-e1,Ai] at b3;exact b3) (λe hm=>b4 e.c (by rw[<-e1];exact aIk hm));have tc:t.cells=[t]:=AL.cells w.t;have tc':t'.cells=[t']:=AL.cells w'.t;have oc:=w.o.cells;have oc':=w'.o.cells;have cc:=w.c.cells;have cc':=w'.c.cells;have l1:=AL.Cq w.t;have l2:=AL.Cq w'.t;rw[Ab,aAb,t18,LL,LL];simp only[Az,Bi,l1,l2,ne_eq,Cu,r1.call,r2.call];refine A9 (λn:Nat=>[ff,I (n:Int)]) (λn h1=>n<=s.tm.length/\h1=h) (λn=>s.tm.length-n) 0 rfl ⟨AO _,rfl⟩ ?_;rintro n h1 ⟨hn,rfl⟩;rcases AT n s.tm.length with hlt|D2
 .have a1:=AL.Bz (k:= .i64) w.t hlt;have a2:=AL.Bz (k:= .i64) w'.t hlt;rw[Cc] at a1 a2;simp only[Az,Bi,l1,show(n:Int)<(s.tm.length:Int) by omega,a1,a2,ne_eq,Cu,BG (show n<9223372036854775807 by omega)];exact AF.next (n+1) rfl ⟨hlt,rfl⟩ (by omega)
 .simp only[Az,Bi,l1,show¬(n:Int)<(s.tm.length:Int) by omega,Cu,Ds]
theorem aMq{x:Eh}{r r':List Aa}(hr:xi h x r)(Fy:xi h x r')(hb:x.Ax.length<=1000000000):BE cx 262 [.agg r,.agg r'] h tt h:=by obtain⟨K,V,rfl,k1,k2,k3,k4⟩:=hr;obtain⟨K',V',rfl,xf,xg,k3',k4'⟩:=Fy;have r1:=aHz k2 xg hb;rw[Ab,oa,aFA];simp only[Az,Bi,Cu,r1.call,Ds]
theorem f183{x:Eh}{r r':List Aa}(hr:xi h x r)(Fy:xi h x r')(hb:x.Ax.length<=1000000000)(hk:x.AZ.length<=1000000000):BE cx 191 [.agg r,.agg r'] h tt h:=by have r1:=aMq hr Fy hb;obtain⟨K,V,rfl,k1,k2,k3,k4⟩:=hr;obtain⟨K',V',rfl,xf,xg,k3',k4'⟩:=Fy;have r2:=f18 k1 xf hk;rw[Ab,l_,aE6];simp only[Az,Cu,r1.call,r2.call,Ds]
theorem f90{l:List Eh}(hv:V5 h v l)(Du:V5 h v' l)(hb:l.length<=1000000000)(ha:∀x∈l,x.Ax.length<=1000000000/\x.AZ.length<=1000000000):BE cx 104 [v,v'] h tt h:=by
 obtain⟨Au,s1,e1,n1⟩:=hv;obtain⟨rows',s1',e1',n1'⟩:=Du;have l1:=s1.len;have l2:=s1'.len;rw[e1] at l1;rw[e1'] at l2;rw[Ab,jq,aEK];simp only[Az,Bi,l1,l2,ne_eq,Cu];refine A9 (λn:Nat=>[ff,I (n:Int)]) (λn h1=>n<=l.length/\h1=h) (λn=>l.length-n) 0 rfl ⟨AO _,rfl⟩ ?_;rintro n h1 ⟨hn,rfl⟩;rcases AT n l.length with hlt|D2
 .have a1:=s1.Fm (k:= .i64) (show n<Au.length by omega);have a2:=s1'.Fm (k:= .i64) (show n<rows'.length by omega);have q1:=n1 n (by omega) hlt;have q2:=n1' n (by omega) hlt;have hm:=ha _ (AJ hlt);have r1:=f183 q1 q2 hm.1 hm.2;obtain⟨K,V,er,_⟩:=q1;obtain⟨K',V',er',_⟩:=q2;rw[er] at a1 r1;rw[er'] at a2 r1;simp only[Az,Nat.reduceLeDiff,↓reduceIte,Bi,l1,show(n:Int)<(l.length:Int) by omega,a1,a2,r1.call,BG (show n<9223372036854775807 by omega)];exact AF.next (n+1) rfl ⟨hlt,rfl⟩ (by omega)
 .simp only[Az,↓reduceIte,Bi,l1,show¬(n:Int)<(l.length:Int) by omega]
end
theorem jT{A:Ar}{k:Nat}(hk:k<A.n.length):A.has ((k:Int)+1)/\A.nd ((k:Int)+1)=A.n[k]:=by
 have h1:A.has ((k:Int)+1):=by unfold Ar.has;omega
 refine⟨h1,?_⟩;unfold Ar.nd;rw[if_pos h1,AE,show((k:Int)+1).toNat-1=k by omega,Af hk];rfl
section
variable{h h':Ae}{a n:Nat}{m:Option Nat}{ps:List PN}{A:Ar}{x:Int}
theorem aMr(w:PA h a n m ps A)(lm:LF A)(hk:∀x,(A.nd x).AZ.length<=1000000000)(hb:A.n.length<=900000000):∃v u,BE cx 25 [Pt a 0] h v (h++u)/\V6 (h++u) h.length v A.n:=by
 have aX:AS=140737488355328:=rfl;have ZD:A.n.length=ps.length:=by rw[w.e,Ai]
 have Ik:Ev cx 25 [Pt a 0] h λr h'=>∃u,h'=h++u/\V6 (h++u) h.length r A.n:=by
  unfold Ev;rw[aAf,t25];simp only[Az,Bi,w.nodes,show Aw (.len false) [.Cm n 0 ps.length 13]=some (I (ps.length:Int)) from rfl];refine A9 (λz:Aa×Nat=>[z.1,I (z.2:Int)]) (λz h1=>z.2<=ps.length/\∃u,h1=h++u/\V6 (h++u) h.length z.1 (A.n.take z.2)) (λz=>ps.length-z.2) (.slnil,0) rfl ⟨AO _,[],by simp,[],.nil,by simp,λk h1 h2=>by simp at h1⟩ ?_;rintro⟨V,k⟩ h1 ⟨Uv,u,rfl,hV⟩;simp only at Uv hV;have w1:PA (h++u) a n m ps A:=w.CP λi hi=>Ad (w.lt i hi);rcases AT k ps.length with hlt|D2
  .obtain⟨hx,ex⟩:=jT (A:=A) (k:=k) (by omega);obtain⟨r,t,r1,hr⟩:=vw w1 lm hx (hk _);have ea:Aw (.Fm 13) [.Cm n 0 ps.length 13,I (k:Int)]=some (.ptr (some (n,nP n ((k:Int)+1)))):=by have:=EZ (k:= .i64) (id:=n) (z:=13) hlt;rw[this];unfold nP;congr 4
   obtain⟨Au,s1,e1,n1⟩:=hV;rw[Al,Cn (by omega)] at e1;obtain⟨K,W,er,K0⟩:=hr;have em:Aw (.By 13) [.agg r]=some (.sl 13 [r]):=K8 (a:= .agg r) (by rw[er];rfl) (by decide);have ap:=AL.xF (b:=168) (row:=r) s1 (by omega);simp only[Az,Bi,show(k:Int)<(ps.length:Int) by omega,w1.nodes,ea,r1.call,em,ap,BG (show k<9223372036854775807 by omega)];refine AF.next (_,k+1) rfl ⟨hlt,u++t,by rw[AB],Au++[r],.mk,by rw[Aq,Al,e1];simp;omega,λj h1 h2=>?_⟩ (by simp only;omega);rw[<-AB];rw[List.getElem_take];by_cases hj:j<Au.length;·rw[Jh hj];have:=n1 j hj (by rw[Al];omega);rw[List.getElem_take] at this;exact this.HB
   .have ej:j=k:=by simp at h1;omega
    subst ej;rw[List.getElem_append_right (by omega)];simp only[e1,DB,List.getElem_cons_zero];rw[<-ex];exact Tz.low (lo:=(h++u).length) ⟨K,W,er,K0⟩ (by simp)
  .rw[Ay (by omega)] at hV;simp only[Az,Bi,show¬(k:Int)<(ps.length:Int) by omega];exact⟨_,rfl,u,rfl,hV⟩
 obtain⟨r,h',hr,u,rfl,hV⟩:=Ik.ret;exact⟨r,u,hr,hV⟩
end
structure RN where
 x:Eh
 kv:Aa
 av:Aa
 okk:Dh x.AZ kv
 oka:Bx x.Ax av
def RN.row(p:RN):List Aa:=[I p.x.kind,I p.x.E8,p.kv,I p.x.Cy,I p.x.AX,.str p.x.name,p.av,.str p.x.data,.str p.x.pub,.str p.x.sys,.bool p.x.Cb,I p.x.cont,I p.x.DT]
def RN.z:RN:=⟨{},.slnil,.slnil,.inr ⟨rfl,rfl⟩,.inr ⟨rfl,rfl⟩⟩
theorem br(l:List RN):∀r∈l.map RN.row,r.length=13:=K9 (f:=RN.row) (λ_=>rfl) l
structure RA(h:Ae)(a n i:Nat)(ps:List RN)(A:Ar):Prop where
 e:A.n=ps.map RN.x
 il:A.i.length=A.n.length
 ha:h[a]?=some (.cells [.Cm n 0 (ps.length+1) 13,.Cm i 0 (ps.length+1) 1])
 hn:h[n]?=some (.cells ((RN.z::ps).map RN.row).flatten)
 hi:h[i]?=some (.cells ((0::A.i).map (Aa.int .i64)))
 d:a≠n/\a≠i/\n≠i
def Iz(a n i:Nat):Nat->Prop:=λj=>j=a\/j=n\/j=i
def RW(h:Ae)(G:Nat->Prop)(a:Nat)(A:Ar):Prop:=∃n i ps,RA h a n i ps A/\G=Iz a n i
def pR(ps:List RN)(x:Int):RN:=(RN.z::ps).getD x.toNat RN.z
def nR(x:Int):Nat:=x.toNat*13
section
variable{h h':Ae}{a n i:Nat}{ps:List RN}{A:Ar}{x:Int}{G:Nat->Prop}
theorem RA.CP(w:RA h a n i ps A)(hf:∀j,Iz a n i j->h'[j]?=h[j]?):RA h' a n i ps A:=
 ⟨w.e,w.il,by rw[hf a (.inl rfl)];exact w.ha,by rw[hf n (.inr (.inl rfl))];exact w.hn,by rw[hf i (.inr (.inr rfl))];exact w.hi,w.d⟩
theorem RA.lt(w:RA h a n i ps A){j:Nat}(hj:Iz a n i j):j<h.length:=by
 rcases hj with rfl|rfl|rfl
 .exact(Ah.1 w.ha).1
 .exact(Ah.1 w.hn).1
 .exact(Ah.1 w.hi).1
theorem RW.CP(w:RW h G a A)(hf:∀j,G j->h'[j]?=h[j]?):RW h' G a A:=by obtain⟨n,i,ps,w,rfl⟩:=w;exact⟨n,i,ps,w.CP hf,rfl⟩
theorem RW.lt(w:RW h G a A){j:Nat}(hj:G j):j<h.length:=by obtain⟨n,i,ps,w,rfl⟩:=w;exact w.lt hj
theorem RA.len(w:RA h a n i ps A):A.n.length=ps.length:=by rw[w.e,Ai]
theorem RA.nodes(w:RA h a n i ps A):Bb h none (Pt a 0)=some (.Cm n 0 (ps.length+1) 13):=by simp only[Bb,w.ha];rfl
theorem RA.VM(w:RA h a n i ps A):Bb h none (Pt a 1)=some (.Cm i 0 (ps.length+1) 1):=by simp only[Bb,w.ha];rfl
theorem RA.at(w:RA h a n i ps A)(hx:A.has x):x.toNat<ps.length+1/\(x.toNat:Int)=x:=by have h1:=hx.1;have h2:=hx.2;rw[w.len] at h2;omega
theorem RA.pn(w:RA h a n i ps A)(hx:A.has x):(RN.z::ps)[x.toNat]?=some (pR ps x)/\(pR ps x).x=A.nd x:=by
 have h1:=(w.at hx).1;have h2:=hx.1;have hl:x.toNat<(RN.z::ps).length:=by simpa using h1
 refine⟨by unfold pR;rw[AE,Af hl];rfl,?_⟩;unfold Ar.nd pR;rw[if_pos hx,w.e];obtain⟨k,hk⟩:∃k,x.toNat=k+1:=⟨x.toNat-1,by omega⟩;rw[hk,List.getD_cons_succ,GH,AE,AE,Cp];have:k<ps.length:=by omega
 rw[Af this];rfl
theorem RA.BV(w:RA h a n i ps A)(hx:A.has x){k:Nat}(hk:k<13):Bb h none (Pt n (nR x+k))=(pR ps x).row[k]?:=by unfold nR;simp only[Bb,w.hn,Et];exact Ke (br _) hk (by rw[Cp,(w.pn hx).1];rfl)
theorem RA.addr(w:RA h a n i ps A)(hx:A.has x):Aw (.Fm 13) [.Cm n 0 (ps.length+1) 13,I x]=some (Pt n (nR x)):=by obtain⟨h1,h2⟩:=w.at hx;have:=EZ (k:= .i64) (id:=n) (z:=13) h1;rwa [h2] at this
theorem RA.f0(w:RA h a n i ps A)(hx:A.has x):Bb h none (Pt n (nR x))=some (I (A.nd x).kind):=by have:=w.BV hx (k:=0) (by decide);rw[Bn] at this;rw[this,<-(w.pn hx).2];rfl
theorem RA.f1(w:RA h a n i ps A)(hx:A.has x):Bb h none (Pt n (nR x+1))=some (I (A.nd x).E8):=by rw[w.BV hx (by decide),<-(w.pn hx).2];rfl
theorem RA.f2(w:RA h a n i ps A)(hx:A.has x):Bb h none (Pt n (nR x+2))=some (pR ps x).kv:=by rw[w.BV hx (by decide)];rfl
theorem RA.f3(w:RA h a n i ps A)(hx:A.has x):Bb h none (Pt n (nR x+3))=some (I (A.nd x).Cy):=by rw[w.BV hx (by decide),<-(w.pn hx).2];rfl
theorem RA.f4(w:RA h a n i ps A)(hx:A.has x):Bb h none (Pt n (nR x+4))=some (I (A.nd x).AX):=by rw[w.BV hx (by decide),<-(w.pn hx).2];rfl
theorem RA.f5(w:RA h a n i ps A)(hx:A.has x):Bb h none (Pt n (nR x+5))=some (.str (A.nd x).name):=by rw[w.BV hx (by decide),<-(w.pn hx).2];rfl
theorem RA.f6(w:RA h a n i ps A)(hx:A.has x):Bb h none (Pt n (nR x+6))=some (pR ps x).av:=by rw[w.BV hx (by decide)];rfl
theorem RA.f7(w:RA h a n i ps A)(hx:A.has x):Bb h none (Pt n (nR x+7))=some (.str (A.nd x).data):=by rw[w.BV hx (by decide),<-(w.pn hx).2];rfl
theorem RA.xj(w:RA h a n i ps A)(hx:A.has x):Bb h none (Pt n (nR x+11))=some (I (A.nd x).cont):=by rw[w.BV hx (by decide),<-(w.pn hx).2];rfl
theorem RA.f12(w:RA h a n i ps A)(hx:A.has x):Bb h none (Pt n (nR x+12))=some (I (A.nd x).DT):=by rw[w.BV hx (by decide),<-(w.pn hx).2];rfl
theorem RA.LA(w:RA h a n i ps A)(hx:A.has x):Dh (A.nd x).AZ (pR ps x).kv:=by rw[<-(w.pn hx).2];exact(pR ps x).okk
theorem RA.ae(w:RA h a n i ps A)(hx:A.has x):Bx (A.nd x).Ax (pR ps x).av:=by rw[<-(w.pn hx).2];exact(pR ps x).oka
theorem RA.wr(w:RA h a n i ps A)(hx:A.has x){k:Nat}(hk:k<13){v:Aa}(hv:v.cells=[v]){p:RN}(hp:p.row=(pR ps x).row.set k v):
  ∃h',Cv h 1 (Pt n (nR x+k)) v=some h'/\RA h' a n i (ps.set (x.toNat-1) p) (A.set x p.x)/\Df h (Iz a n i) h' (Iz a n i)/\h'.length=h.length:=by
 obtain⟨hlt,hxe⟩:=w.at hx;have h1:=hx.1;have hg:=(w.pn hx).1;have Ra:x.toNat<(RN.z::ps).length:=by simpa using hlt
 rw[Af Ra,BC] at hg;have e:=Mt (Au:=(RN.z::ps).map RN.row) (i:=x.toNat) (k:=k) (v:=v) (br _) (by simpa using hlt) hk;rw[CY,hg,<-hp,<-Fk] at e;have es:(RN.z::ps).set x.toNat p=RN.z::ps.set (x.toNat-1) p:=by obtain⟨j,hj⟩:∃j,x.toNat=j+1:=⟨x.toNat-1,by omega⟩;rw[hj,List.set_cons_succ,GH]
 rw[es] at e;have Nt:=w.lt (.inr (.inl rfl));refine⟨h.set n (.cells ((RN.z::ps.set (x.toNat-1) p).map RN.row).flatten),?_,⟨?_,?_,?_,AN Nt,?_,w.d⟩,⟨by rw[Bj];exact Ac _,λj _ hn=>Aj λe=>hn (.inr (.inl e.symm)),λj hj=> .inl hj⟩,Bj⟩;·unfold nR;simp only[Cv,w.hn,hv,Bs,NC];rw[if_pos (by rw[Fe (br _),Ai];have:=Ez 13 (show x.toNat+1<=(RN.z::ps).length from Ra);omega),e]
 .unfold Ar.set;simp only;rw[if_pos hx,w.e,Fk]
 .unfold Ar.set;simp only;rw[if_pos hx,Bj];exact w.il
 .rw[Aj (DR w.d.1),Bj];exact w.ha
 .rw[Aj w.d.2.2];exact w.hi
theorem Ha(w:RA h a n i ps A):BE cx 164 [Pt a 0,I x] h (.bool (decide (A.has x))) h:=by
 have hl:=w.len;rw[Ab,lf,t164];by_cases h0:0<x
 .have e:decide (A.has x)=decide (x<((ps.length+1:Nat):Int)):=by rw[D1];unfold Ar.has;omega
  rw[e];simp only[Az,Bi,h0,w.nodes,show Aw (.len false) [.Cm n 0 (ps.length+1) 13]=some (I ((ps.length+1:Nat):Int)) from rfl]
 .have e:decide (A.has x)=false:=by rw[AA];unfold Ar.has;omega
  rw[e];simp only[Az,Bi,h0]
theorem aHB(w:RA h a n i ps A):BE cx 306 [Pt a 0,I x] h (I (A.nd x).E8) h:=by
 rw[Ab,pq,aFV];by_cases hx:A.has x;·simp only[Az,Bi,(Ha (x:=x) w).call,AD hx,w.nodes,w.addr hx,w.f1 hx]
 .rw[GM hx];simp only[Az,Bi,(Ha (x:=x) w).call,AA hx]
theorem bt(w:RA h a n i ps A)(hb:(A.nd x).AZ.length<=1000000000):∃v,BE cx 186 [Pt a 0,I x] h v h/\Dh (A.nd x).AZ v:=by
 have hm:AS=140737488355328:=rfl;by_cases hx:A.has x;·obtain⟨u,e,hu⟩:=AL.Gm (b:=8) (w.LA hx) (by omega);refine⟨u,?_,hu⟩;rw[Ab,nJ,aBa];simp only[Az,Bi,(Ha (x:=x) w).call,AD hx,w.nodes,w.addr hx,w.f2 hx,e]
 .refine⟨.slnil,?_,by rw[GM hx];exact .inr ⟨rfl,rfl⟩⟩;rw[Ab,nJ,aBa];simp only[Az,Bi,(Ha (x:=x) w).call,AA hx]
theorem aHC(w:RA h a n i ps A)(hx:A.has x):BE cx 166 [Pt a 0,I x] h (I (A.up x)) h:=by
 rw[Ab,lj,aE2];by_cases hp:(A.nd x).E8=0
 .have e:A.up x=(A.nd x).DT:=by unfold Ar.up;rw[if_neg (by simpa using hp)]
  simp only[Az,Bi,w.nodes,w.addr hx,w.f1 hx,hp,w.f12 hx,e,ne_eq,Cu]
 .have e:A.up x=(A.nd x).E8:=by unfold Ar.up;rw[if_pos (by simpa using hp)]
  simp only[Az,Bi,w.nodes,w.addr hx,w.f1 hx,hp,e,ne_eq]
end
theorem aHD{A:Ar}{e x:Int}(ok:Eu A e)(hx:A.has x)(h0:A.up x≠0):A.has (A.up x):=by
 unfold Ar.up at h0⊢;split at h0;·rename_i h;rw[if_pos h];exact(ok.E8 x hx h).1
 .rename_i h;rw[if_neg h];exact(ok.DT x hx h0).1
theorem sZ{A:Ar}{t x:Int}(hne:x≠t):Reach A t x↔A.up x≠0/\Reach A t (A.up x):=by
 constructor
 .intro h;cases h with
  |refl=>exact absurd rfl hne
  |step h1 h2=>exact⟨h1,h2⟩
 .exact λh=> .step h.1 h.2
section
variable{h h':Ae}{a n i:Nat}{ps:List RN}{A:Ar}{x:Int}{G:Nat->Prop}
open Classical in
theorem aHE{up e:Int}(w:RA h a n i ps A)(ok:Eu A e)(hu:A.has up)(hx:A.has x):BE cx 297 [Pt a 0,I up,I x] h (.bool (decide (Reach A up x))) h:=by
 obtain⟨r,hr⟩:=ok.YL;have hu0:up≠0:=by have:=hu.1;omega
 rw[Ab,pg,aFQ];simp only[Az,Bi,(Ha (x:=up) w).call,(Ha (x:=x) w).call,AD hu,AD hx];refine A9 (λc:Int=>[I c,ff]) (λc h1=>(c=0\/A.has c)/\(Reach A up x↔c≠0/\Reach A up c)/\h1=h) (λc=>if c=0 then 0 else r c+1) x rfl ⟨.inr hx,⟨λh=>⟨by have:=hx.1;omega,h⟩,λh=>h.2⟩,rfl⟩ ?_;rintro c h1 ⟨hc,he,rfl⟩;by_cases h0:c=0;·have e:decide (Reach A up x)=false:=AA (λhh=>(he.1 hh).1 h0);simp only[Az,Bi,h0,ne_eq,e]
 .have hc:=hc.resolve_left h0;by_cases hcu:c=up;·have e:decide (Reach A up x)=true:=AD (he.2 ⟨h0,by rw[hcu];exact .refl⟩);simp only[Az,Bi,h0,ne_eq,AV hcu,e]
  .simp only[Az,Bi,h0,ne_eq,hcu,(aHC w hc).call];refine AF.next (A.up c) rfl ⟨?_,?_,rfl⟩ ?_
   .by_cases hz:A.up c=0;·exact .inl hz
    .exact .inr (aHD ok hc hz)
   .rw[he,sZ hcu];exact⟨λh=>h.2,λh=>⟨h0,h⟩⟩
   .by_cases hz:A.up c=0;·rw[if_pos hz,if_neg h0];omega
    .rw[if_neg hz,if_neg h0];have:=hr c hc hz;omega
theorem aHF{v:Aa}{l:List Int}(hv:Dh l v)(hb:l.length<=1000000000)(x:Int)(h:Ae):∃u,BE cx 298 [v,I x] h u h/\Dh (l.filter λk=>decide (k≠x)) u:=by
 have hm:AS=140737488355328:=rfl;have Ik:Ev cx 298 [v,I x] h λr h'=>Dh (l.filter λk=>decide (k≠x)) r/\h'=h:=by
  unfold Ev;rw[ph,aFR];refine A9 (λs:Aa×Nat=>[s.1,I (s.2:Int)]) (λs h1=>s.2<=l.length/\Dh ((l.take s.2).filter λk=>decide (k≠x)) s.1/\h1=h) (λs=>l.length-s.2) (.slnil,0) rfl ⟨AO _,.inr ⟨rfl,rfl⟩,rfl⟩ ?_;rintro⟨u,k⟩ h1 ⟨hk,hu,rfl⟩;simp only at hk hu;have hvl:=AL.Cq hv;rcases AT k l.length with hlt|D2
  .have e1:=AL.Bz (k:= .i64) hv hlt;rw[Cc] at e1;have em:Aw (.By 1) [I l[k]]=some (.sl 1 [Cc l[k]]):=rfl;have GI:((l.take k).filter λk=>decide (k≠x)).length<=l.length:=Bt (List.length_filter_le _ _) (by rw[Al];omega);have e2:=AL.Ja (b:=8) (a:=l[k]) hu (by omega);simp only[Az,Bi,hvl,show(k:Int)<(l.length:Int) by omega,e1,em,e2,BG (show k<9223372036854775807 by omega),ne_eq];refine⟨λh2=>?_,λh2=>?_⟩
   .refine AF.next (_,k+1) rfl ⟨hlt,?_,rfl⟩ (by simp only;omega);rw[Av hlt,EA];have:[l[k]].filter (λk=>decide (k≠x))=[l[k]]:=by simp[h2]
    rw[this];exact .mk
   .refine AF.next (u,k+1) rfl ⟨hlt,?_,rfl⟩ (by simp only;omega);rw[Av hlt,EA];have h2:l[k]=x:=by simpa using h2
    have:[l[k]].filter (λk=>decide (k≠x))=[]:=by simp[h2]
    rw[this,BB];exact hu
  .rw[Ay D2] at hu;simp only[Az,Bi,hvl,show¬(k:Int)<(l.length:Int) by omega];exact⟨_,rfl,hu⟩
 obtain⟨r,h',hr,hu,rfl⟩:=Ik.ret;exact⟨r,hr,hu⟩
theorem aHG(w:RA h a n i ps A)(hx:A.has x)(hb:∀y,(A.nd y).AZ.length<=1000000000){e:Int}(ok:Eu A e):∃h' Ip,BE cx 258 [Pt a 0,I x] h (I 0) h'/\RA h' a n i Ip (A.cut x)/\Df h (Iz a n i) h' (Iz a n i):=by
 by_cases hp:(A.nd x).E8=0;·refine⟨h,ps,?_,by unfold Ar.cut;simp only;rw[if_pos hp];exact w,.refl⟩;rw[Ab,oL,aBA];simp only[Az,Bi,(Ha (x:=x) w).call,AD hx,w.nodes,w.addr hx,w.f1 hx,hp,ne_eq]
 .obtain⟨hq,_⟩:=ok.E8 x hx hp;obtain⟨q,eq⟩:∃q,q=(A.nd x).E8:=⟨_,rfl⟩;rw[<-eq] at hp hq;obtain⟨u,r1,hu⟩:=aHF (w.LA hq) (hb q) x h;obtain⟨h1,s1,w1,x1,l1⟩:=w.wr hq (k:=2) (by decide) (v:=u) (AL.cells hu) (p:=⟨{A.nd q with AZ:=(A.nd q).AZ.filter λk=>decide (k≠x)},u,(pR ps q).av,hu,w.ae hq⟩) (by simp only[RN.row];rw[(w.pn hq).2];rfl);have Nx:(A.set q {A.nd q with AZ:=(A.nd q).AZ.filter λk=>decide (k≠x)}).has x:=Hz.2 hx;have WQ:=(w1.pn Nx).2;obtain⟨h2,s2,w2,x2,l2⟩:=w1.wr Nx (k:=1) (by decide) (v:=I 0) rfl (p:=⟨{(A.set q {A.nd q with AZ:=(A.nd q).AZ.filter λk=>decide (k≠x)}).nd x with E8:=0},(pR _ x).kv,(pR _ x).av,w1.LA Nx,w1.ae Nx⟩) (by simp only[RN.row];rw[WQ];rfl);have hA:A.cut x=(A.set q {A.nd q with AZ:=(A.nd q).AZ.filter λk=>decide (k≠x)}).set x {(A.set q {A.nd q with AZ:=(A.nd q).AZ.filter λk=>decide (k≠x)}).nd x with E8:=0}:=by unfold Ar.cut;simp only;rw[<-eq,if_neg hp]
  refine⟨h2,_,?_,by rw[hA];exact w2,x1.trans x2⟩;have e1:(A.nd x).E8=q:=eq.symm;have nd1:=w1.nodes;have ad1:=w1.addr Nx;rw[Bj] at nd1 ad1;rw[Ab,oL,aBA];simp only[Az,Bi,(Ha (x:=x) w).call,AD hx,w.nodes,w.addr hx,w.f1 hx,e1,hp,ne_eq,w.addr hq,w.f2 hq,r1.call,Bv,s1,nd1,s2]
open Classical in
theorem aHH{p b e:Int}(w:RA h a n i ps A)(ok:Eu A e):∃er:Int,BE cx 257 [Pt a 0,I p,I x,I b] h (I er) h/\(er=0↔xP A p x b):=by
 by_cases hp:A.has p;rotate_left;·refine⟨3,?_,⟨λh=>absurd h (by decide),λf=>absurd f.hp hp⟩⟩;rw[Ab,Jd,Tr];simp only[Az,Bi,(Ha (x:=p) w).call,AA hp,AP]
 by_cases hx:A.has x;rotate_left;·refine⟨3,?_,⟨λh=>absurd h (by decide),λf=>absurd f.hn hx⟩⟩;rw[Ab,Jd,Tr];simp only[Az,Bi,(Ha (x:=p) w).call,AD hp,(Ha (x:=x) w).call,AA hx,AP]
 by_cases hb:b≠0/\¬A.has b;·refine⟨3,?_,⟨λh=>absurd h (by decide),λf=>absurd (f.hb hb.1).1 hb.2⟩⟩;rw[Ab,Jd,Tr];simp only[Az,Bi,(Ha (x:=p) w).call,AD hp,(Ha (x:=x) w).call,AD hx,ne_eq,hb.1,(Ha (x:=b) w).call,AA hb.2,AP]
 have hbh:b≠0->A.has b:=λh0=>by
  by_cases h1:A.has b;·exact h1
  .exact absurd ⟨h0,h1⟩ hb
 have first:∀(Q:Post) (k:EL->List Aa->IT),W cx (k .normal [ff]) Q h->W cx (.Dg 200001 (.call 164 [Pt a 0,I p] λv0=> .op (.un .not) [v0] λv1=> .AH v1 (.ret .normal [tt]) (.call 164 [Pt a 0,I x] λv2=> .op (.un .not) [v2] λv3=> .AH v3 (.ret .normal [tt]) (.op (.int .neq) [I b,I 0] λv4=> .AH v4 (.call 164 [Pt a 0,I b] λv5=> .op (.un .not) [v5] λv6=> .ret .normal [v6]) (.ret .normal [ff])))) k) Q h:=by
  intro Q k hk;by_cases h0:b=0;·simp only[Az,Bi,(Ha (x:=p) w).call,AD hp,(Ha (x:=x) w).call,AD hx,ne_eq,h0,AP];exact hk
  .simp only[Az,Bi,(Ha (x:=p) w).call,AD hp,(Ha (x:=x) w).call,AD hx,ne_eq,h0,(Ha (x:=b) w).call,AD (hbh h0),AP];exact hk
 by_cases kp:J9 (A.nd p).kind;rotate_left
 .refine⟨4,?_,⟨λh=>absurd h (by decide),λf=>absurd f.kp kp⟩⟩;unfold J9 at kp;have k1:¬(A.nd p).kind=1:=λe=>kp (.inl e);have k2:¬(A.nd p).kind=2:=λe=>kp (.inr (.inl e));have k4:¬(A.nd p).kind=4:=λe=>kp (.inr (.inr e));rw[Ab,Jd,Tr];refine first _ _ ?_
  simp only[Az,Bi,w.nodes,w.addr hp,w.f0 hp,w.addr hx,w.f0 hx,AP,ne_eq,k1,k2,k4]
 by_cases n1:(A.nd x).kind=1
 .refine⟨4,?_,⟨λh=>absurd h (by decide),λf=>absurd n1 f.kn.1⟩⟩;rw[Ab,Jd,Tr];refine first _ _ ?_
  rcases kp with kp|kp|kp<;>simp only[Az,Bi,w.nodes,w.addr hp,w.f0 hp,w.addr hx,w.f0 hx,AP,ne_eq,show¬(2:Int)=1 by decide,show¬(4:Int)=1 by decide,show¬(4:Int)=2 by decide,kp,n1]
 by_cases n2:(A.nd x).kind=2
 .refine⟨4,?_,⟨λh=>absurd h (by decide),λf=>absurd n2 f.kn.2⟩⟩;rw[Ab,Jd,Tr];refine first _ _ ?_
  rcases kp with kp|kp|kp<;>simp only[Az,Bi,w.nodes,w.addr hp,w.f0 hp,w.addr hx,w.f0 hx,AP,ne_eq,show¬(2:Int)=1 by decide,show¬(4:Int)=1 by decide,show¬(4:Int)=2 by decide,kp,n2]
 have rc:=aHE w ok hx hp;by_cases re:Reach A x p
 .refine⟨4,?_,⟨λh=>absurd h (by decide),λf=>absurd re f.re⟩⟩;rw[AD re] at rc;rw[Ab,Jd,Tr];refine first _ _ ?_
  rcases kp with kp|kp|kp<;>simp only[Az,Bi,w.nodes,w.addr hp,w.f0 hp,w.addr hx,w.f0 hx,AP,ne_eq,show¬(2:Int)=1 by decide,show¬(4:Int)=1 by decide,show¬(4:Int)=2 by decide,kp,n1,n2,rc.call]
 rw[AA re] at rc;by_cases b0:b=0
 .refine⟨0,?_,⟨λ_=>⟨hp,hx,λh=>absurd b0 h,kp,⟨n1,n2⟩,re⟩,λ_=>rfl⟩⟩;rw[Ab,Jd,Tr];refine first _ _ ?_
  rcases kp with kp|kp|kp<;>simp only[Az,Bi,w.nodes,w.addr hp,w.f0 hp,w.addr hx,w.f0 hx,AP,ne_eq,show¬(2:Int)=1 by decide,show¬(4:Int)=1 by decide,show¬(4:Int)=2 by decide,kp,n1,n2,rc.call,b0]
 by_cases bx:b=x
 .refine⟨5,?_,⟨λh=>absurd h (by decide),λf=>absurd bx (f.hb b0).2.1⟩⟩;rw[Ab,Jd,Tr];refine first _ _ ?_
  have Mi:¬x=0:=by rw[<-bx];exact b0
  rcases kp with kp|kp|kp<;>simp only[Az,Bi,w.nodes,w.addr hp,w.f0 hp,w.addr hx,w.f0 hx,AP,ne_eq,show¬(2:Int)=1 by decide,show¬(4:Int)=1 by decide,show¬(4:Int)=2 by decide,kp,n1,n2,rc.call,bx,Mi]
 have Pc:=hbh b0;by_cases bp:(A.nd b).E8=p
 .refine⟨0,?_,⟨λ_=>⟨hp,hx,λh=>⟨Pc,bx,bp⟩,kp,⟨n1,n2⟩,re⟩,λ_=>rfl⟩⟩;rw[Ab,Jd,Tr];refine first _ _ ?_
  rcases kp with kp|kp|kp<;>simp only[Az,Bi,w.nodes,w.addr hp,w.f0 hp,w.addr hx,w.f0 hx,AP,ne_eq,show¬(2:Int)=1 by decide,show¬(4:Int)=1 by decide,show¬(4:Int)=2 by decide,kp,n1,n2,rc.call,b0,bx,w.addr Pc,w.f1 Pc,AV bp]
 .refine⟨5,?_,⟨λh=>absurd h (by decide),λf=>absurd (f.hb b0).2.2 bp⟩⟩;rw[Ab,Jd,Tr];refine first _ _ ?_
  rcases kp with kp|kp|kp<;>simp only[Az,Bi,w.nodes,w.addr hp,w.f0 hp,w.addr hx,w.f0 hx,AP,ne_eq,show¬(2:Int)=1 by decide,show¬(4:Int)=1 by decide,show¬(4:Int)=2 by decide,kp,n1,n2,rc.call,b0,bx,w.addr Pc,w.f1 Pc,bp]
def O5(b x:Int)(l:List Int):List Int:=l.flatMap λk=>if k=b then[x,k] else[k]
theorem Sm{b x:Int}:∀{l:List Int},b∉l->O5 b x l=l
 |[],_=>rfl
 |y::l,h=>by have h1:¬y=b:=λe=>h (by simp[e]);have h2:b∉l:=λe=>h (by simp[e]);have:=Sm (x:=x) h2;unfold O5 at this⊢;rw[eB,if_neg h1,this];rfl
theorem dM{b x:Int}:∀{l:List Int},l.Nodup->b∈l->O5 b x l=l.takeWhile (λk=>decide (k≠b))++x::l.dropWhile (λk=>decide (k≠b))
 |[],_,h=>by cases h
 |y::l,hn,h=>by
  rw[BW] at hn;by_cases h1:y=b;·subst h1;have:=Sm (x:=x) hn.1;unfold O5 at this⊢;rw[eB,if_pos rfl,this];simp
  .have h2:b∈l:=by rcases AM.1 h with h|h;exact absurd h.symm h1;exact h
   have:=dM (x:=x) hn.2 h2;unfold O5 at this⊢;rw[eB,if_neg h1,this,List.takeWhile_cons,List.dropWhile_cons];simp[h1]
theorem dN{b x:Int}{l:List Int}:(O5 b x l).length<=2*l.length:=by
 induction l with
 |nil=>simp[O5]
 |cons y l ih=>unfold O5 at ih⊢;rw[eB,Aq,Bc];split<;>simp only[Bc,BT]<;>omega
theorem tC{b x y:Int}{l:List Int}:O5 b x (l++[y])=O5 b x l++if y=b then[x,y] else[y]:=by unfold O5;rw[List.flatMap_append];simp
open Classical in
theorem aHI{p b e:Int}(w:RA h a n i ps A)(ok:Eu A e)(hb:∀y,(A.nd y).AZ.length<=900000000):∃er h' Ip,BE cx 187 [Pt a 0,I p,I x,I b] h (I er) h'/\RA h' a n i Ip (A.Fg p x b)/\Df h (Iz a n i) h' (Iz a n i):=by
 obtain⟨er,r1,her⟩:=aHH (p:=p) (x:=x) (b:=b) w ok;by_cases hf:xP A p x b;rotate_left;·have h0:¬er=0:=λh=>hf (her.1 h);refine⟨er,h,ps,?_,by rw[M7 hf];exact w,.refl⟩;rw[Ab,nK,aBb];simp only[Az,Bi,r1.call,ne_eq,h0]
 have h0:=her.2 hf;subst h0;obtain⟨h1,ZI,r2,w1,x1⟩:=aHG w hf.hn (λy=>Bt (hb y) (by decide)) ok;have kR:((A.cut x).nd p).AZ.Nodup/\(b≠0->b∈((A.cut x).nd p).AZ)/\((A.cut x).nd p).AZ.length<=900000000/\(0:Int)∉((A.cut x).nd p).AZ/\(A.cut x).has p/\(A.cut x).has x:=by
  have TA:=hC ok hf.hn hf.kn.2;have Px:(A.cut x).has p:=JV.2 hf.hp;refine⟨(TA.Q3 p Px).rN,λh0=>?_,?_,λh0=>?_,Px,JV.2 hf.hn⟩
  .obtain⟨b1,b2,b3⟩:=hf.hb h0;have ax:((A.cut x).nd b).E8=p:=by rw[P8 ok hf.hn,if_neg b2];split<;>exact b3
   have:=(TA.E8 b (JV.2 b1) (by rw[ax];have:=hf.hp.1;omega)).2;rwa [ax] at this
  .have h1:=hb p;have h2:=hb x;rw[P8 ok hf.hn];split;·exact h2
   .split;·exact Bt (List.length_filter_le _ _) h1
    .exact h1
  .have:=(TA.LA p Px 0 h0).1.1;omega
 obtain⟨kR,hbm,qd,hz,Px,Nx⟩:=kR;generalize hA1:A.cut x=A1 at*;have Ik:Ev cx 187 [Pt a 0,I p,I x,I b] h λr h'=>r=I 0/\∃Ip,RA h' a n i Ip (A.Fg p x b)/\Df h (Iz a n i) h' (Iz a n i):=by
  have hm:AS=140737488355328:=rfl;unfold Ev;rw[nK,aBb];simp only[Az,Bi,r1.call,ne_eq,r2.call];have Uv:=w1.LA Px;have lk:=AL.Cq Uv;refine Ej (i:=0) (λs:Aa×Nat=>[s.1,I (s.2:Int)]) (λs h2=>s.2<=(A1.nd p).AZ.length/\Dh (O5 b x ((A1.nd p).AZ.take s.2)) s.1/\h2=h1) (λs=>(A1.nd p).AZ.length-s.2) (λs h2=>Dh (O5 b x (A1.nd p).AZ) s.1/\h2=h1) (.slnil,0) rfl ⟨AO _,.inr ⟨rfl,rfl⟩,rfl⟩ ?_ ?_
  .rintro⟨u,k⟩ h2 ⟨hk,hu,rfl⟩;simp only at hk hu;rcases AT k (A1.nd p).AZ.length with hlt|D2
   .have e1:=AL.Bz (k:= .i64) Uv hlt;rw[Cc] at e1;have ZD:=dN (b:=b) (x:=x) (l:=(A1.nd p).AZ.take k);rw[Al] at ZD;have em1:Aw (.By 1) [I x]=some (.sl 1 [Cc x]):=rfl;have sL:Aw (.By 1) [I (A1.nd p).AZ[k]]=some (.sl 1 [Cc (A1.nd p).AZ[k]]):=rfl;have hs:=tC (b:=b) (x:=x) (y:=(A1.nd p).AZ[k]) (l:=(A1.nd p).AZ.take k);rw[<-Av hlt] at hs;by_cases ew:(A1.nd p).AZ[k]=b;·have a1:=AL.Ja (b:=8) (a:=x) hu (by omega);have Nu:Dh (O5 b x ((A1.nd p).AZ.take k)++[x]) (.sl 1 ((O5 b x ((A1.nd p).AZ.take k)++[x]).map Cc)):= .mk;have a2:=AL.Ja (b:=8) (a:=(A1.nd p).AZ[k]) Nu (by rw[Aq,Bs];omega);rw[if_pos ew,show[x,(A1.nd p).AZ[k]]=[x]++[(A1.nd p).AZ[k]] from rfl,<-AB] at hs;simp only[Az,Bi,w1.nodes,w1.addr Px,w1.f2 Px,lk,show(k:Int)<((A1.nd p).AZ.length:Int) by omega,e1,AV ew,em1,a1,sL,a2,AP,BG (show k<9223372036854775807 by omega)];exact .next (_,k+1) rfl ⟨hlt,by rw[hs];exact .mk,rfl⟩ (by simp only;omega)
    .have a2:=AL.Ja (b:=8) (a:=(A1.nd p).AZ[k]) hu (by omega);rw[if_neg ew] at hs;simp only[Az,Bi,w1.nodes,w1.addr Px,w1.f2 Px,lk,show(k:Int)<((A1.nd p).AZ.length:Int) by omega,e1,ew,sL,a2,AP,BG (show k<9223372036854775807 by omega)];exact .next (_,k+1) rfl ⟨hlt,by rw[hs];exact .mk,rfl⟩ (by simp only;omega)
   .rw[Ay D2] at hu;simp only[Az,Bi,w1.nodes,w1.addr Px,w1.f2 Px,lk,show¬(k:Int)<((A1.nd p).AZ.length:Int) by omega];exact .Hy (u,k) rfl ⟨hu,rfl⟩
  .rintro⟨u,k⟩ h2 ⟨hu,rfl⟩;simp only at hu;obtain⟨u2,Il,hw⟩:∃u2,Dh (Ig (A1.nd p).AZ b x) u2/\(b=0->Aw (.append 1 8) [u,.sl 1 [Cc x]]=some u2)/\(b≠0->u2=u):=by
    have ZD:=dN (b:=b) (x:=x) (l:=(A1.nd p).AZ);by_cases h0:b=0;·have a1:=AL.Ja (b:=8) (a:=x) hu (by omega);refine⟨_,?_,λ_=>a1,λh=>absurd h0 h⟩;have e:O5 b x (A1.nd p).AZ=(A1.nd p).AZ:=Sm (by rw[h0];exact hz);rw[e];unfold Ig;rw[if_pos h0];exact .mk
    .refine⟨u,?_,λh=>absurd h h0,λ_=>rfl⟩;unfold Ig;rw[if_neg h0,<-dM kR (hbm h0)];exact hu
   obtain⟨h3,s3,w3,x3,_⟩:=w1.wr Px (k:=2) (by decide) (v:=u2) (AL.cells Il) (p:=⟨{A1.nd p with AZ:=Ig (A1.nd p).AZ b x},u2,(pR ZI p).av,Il,w1.ae Px⟩) (by simp only[RN.row];rw[(w1.pn Px).2];rfl);have ql:(A1.set p {A1.nd p with AZ:=Ig (A1.nd p).AZ b x}).has x:=Hz.2 Nx;have WQ:=(w3.pn ql).2;obtain⟨h4,s4,w4,x4,_⟩:=w3.wr ql (k:=1) (by decide) (v:= I p) rfl (p:=⟨{(A1.set p {A1.nd p with AZ:=Ig (A1.nd p).AZ b x}).nd x with E8:=p},(pR _ x).kv,(pR _ x).av,w3.LA ql,w3.ae ql⟩) (by simp only[RN.row];rw[WQ];rfl);have hA:A.Fg p x b=(A1.set p {A1.nd p with AZ:=Ig (A1.nd p).AZ b x}).set x {(A1.set p {A1.nd p with AZ:=Ig (A1.nd p).AZ b x}).nd x with E8:=p}:=by unfold Ar.Fg;rw[if_pos hf,hA1];rfl
   have nd3:=w3.nodes;have ad3:=w3.addr ql;rw[Bj] at nd3 ad3;have em1:Aw (.By 1) [I x]=some (.sl 1 [Cc x]):=rfl;by_cases h0:b=0;·have a1:=hw.1 h0;simp only[Az,Bi,AV h0,em1,a1,AP,w1.nodes,w1.addr Px,s3,nd3,ad3,s4];exact⟨_,rfl,rfl,_,by rw[hA];exact w4,(x1.trans x3).trans x4⟩
   .have e2:=hw.2 h0;subst e2;simp only[Az,Bi,h0,AP,w1.nodes,w1.addr Px,s3,nd3,ad3,s4];exact⟨_,rfl,rfl,_,by rw[hA];exact w4,(x1.trans x3).trans x4⟩
 obtain⟨r,h',hr,rfl,Ip,w',x'⟩:=Ik.ret;exact⟨0,h',Ip,hr,w',x'⟩
end
section
variable{h h':Ae}{a n i:Nat}{ps:List RN}{A:Ar}{x:Int}{G:Nat->Prop}
theorem pO(s:Int):JE cx 78 [I s] (.bool (decide (BS.Ho s))):=by rw[LX,aAu,t78];by_cases h1:0<=s<;>by_cases h2:s<=7<;>simp[h1,h2,BS.Ho]
theorem pP(w:RA h a n i ps A)(hl:A.len<=1000000000)(p:RN):∃h' n' i',BE cx 97 [Pt a 0,.agg p.row] h (I (A.len+1)) h'/\RA h' a n' i' (ps++[p]) (A.add p.x)/\Df h (Iz a n i) h' (Iz a n' i'):=by
 have hm:AS=140737488355328:=rfl;have hlen:=w.len;have XT:=w.il;have ZD:ps.length<=1000000000:=by unfold Ar.len at hl;omega
 have g1:=IF (b:=168) (Au:=(RN.z::ps).map RN.row) (r2:=[p.row]) (v:= .sl 13 [p.row]) (br _) (by decide) w.hn .mk (by simp) (by simp;omega);have e1:((RN.z::ps).map RN.row).length=ps.length+1:=by simp
 rw[e1,Bs] at g1;have el1:(h.set n .CG++[De.cells ((RN.z::ps).map RN.row++[p.row]).flatten]).length=h.length+1:=by simp
 have er1:(h.set n .CG++[De.cells ((RN.z::ps).map RN.row++[p.row]).flatten])[h.length]?=some (.cells ((RN.z::(ps++[p])).map RN.row).flatten):=by rw[Bg (by simp)];simp
 have hal:=w.lt (.inl rfl);have aMu:=w.lt (.inr (.inr rfl));have Nt:=w.lt (.inr (.inl rfl));have a1:(h.set n .CG++[De.cells ((RN.z::ps).map RN.row++[p.row]).flatten])[a]?=some (.cells [.Cm n 0 (ps.length+1) 13,.Cm i 0 (ps.length+1) 1]):=by rw[Ad (by simpa using hal),Aj (DR w.d.1)];exact w.ha
 have i1:(h.set n .CG++[De.cells ((RN.z::ps).map RN.row++[p.row]).flatten])[i]?=some (.cells ((0::A.i).map (Aa.int .i64))):=by rw[Ad (by simpa using aMu),Aj w.d.2.2];exact w.hi
 have o1:∀j,j<h.length->j≠n->(h.set n .CG++[De.cells ((RN.z::ps).map RN.row++[p.row]).flatten])[j]?=h[j]?:=λj hj hn=>by rw[Ad (by simpa using hj),Aj (DR hn)]
 generalize h.set n .CG++[De.cells ((RN.z::ps).map RN.row++[p.row]).flatten]=h1 at*;have t1:At h1 a 0 _:=⟨_,a1,rfl⟩;have s1:=t1.store (u:= .Cm h.length 0 (ps.length+1+1) 13) rfl;have a2:=Hh (k:=0) (v:= .Cm h.length 0 (ps.length+1+1) 13) a1;have n2:(put h1 a 0 (.Cm h.length 0 (ps.length+1+1) 13))[h.length]?=_:=(B4 (by omega)).trans er1;have i2:(put h1 a 0 (.Cm h.length 0 (ps.length+1+1) 13))[i]?=_:=(B4 (DR w.d.2.1)).trans i1;have o2:∀j,j<h.length->j≠n->j≠a->(put h1 a 0 (.Cm h.length 0 (ps.length+1+1) 13))[j]?=h[j]?:=λj hj hn ha=>(B4 ha).trans (o1 j hj hn);have el2:(put h1 a 0 (.Cm h.length 0 (ps.length+1+1) 13)).length=h.length+1:=by rw[IB,el1]
 generalize put h1 a 0 (.Cm h.length 0 (ps.length+1+1) 13)=h2 at*;have l2:Bb h2 none (Pt a 1)=some (.Cm i 0 (ps.length+1) 1):=At.load ⟨_,a2,rfl⟩;have g2:=IF (b:=8) (h:=h2) (id:=i) (Au:=(0::A.i).map Cc) (r2:=[Cc 0]) (v:= .sl 1 [[I 0]]) (K9 (f:=Cc) (λ_=>rfl) _) (by decide) (by rw[Mv];exact i2) (.inl rfl) (by simp) (by simp;omega);have e2:((0::A.i).map Cc).length=ps.length+1:=by simp;omega
 rw[e2,Bs,el2] at g2;have aMv:a<h2.length:=by omega
 have a3:(h2.set i .CG++[De.cells ((0::A.i).map Cc++[Cc 0]).flatten])[a]?=_:=((Ad (by simpa using aMv)).trans (Aj (DR w.d.2.1))).trans a2;have n3:(h2.set i .CG++[De.cells ((0::A.i).map Cc++[Cc 0]).flatten])[h.length]?=_:=((Ad (by simp;omega)).trans (Aj (by omega))).trans n2;have i3:(h2.set i .CG++[De.cells ((0::A.i).map Cc++[Cc 0]).flatten])[h.length+1]?=some (.cells ((0::(A.i++[0])).map (Aa.int .i64))):=by rw[Bg (by simp;omega)];simp only[Bj,el2,DB,JM];rw[<-Mv];simp
 have o3:∀j,j<h.length->j≠n->j≠a->j≠i->(h2.set i .CG++[De.cells ((0::A.i).map Cc++[Cc 0]).flatten])[j]?=h[j]?:=λj hj hn ha hi=>((Ad (by simp;omega)).trans (Aj (DR hi))).trans (o2 j hj hn ha)
 have el3:(h2.set i .CG++[De.cells ((0::A.i).map Cc++[Cc 0]).flatten]).length=h.length+2:=by simp;omega
 generalize h2.set i .CG++[De.cells ((0::A.i).map Cc++[Cc 0]).flatten]=h3 at*;have t3:At h3 a 1 (.Cm i 0 (ps.length+1) 1):=⟨_,a3,rfl⟩;have s3:=t3.store (u:= .Cm (h.length+1) 0 (ps.length+1+1) 1) rfl;have a4:=Hh (k:=1) (v:= .Cm (h.length+1) 0 (ps.length+1+1) 1) a3;have l4:Bb (put h3 a 1 (.Cm (h.length+1) 0 (ps.length+1+1) 1)) none (Pt a 0)=some (.Cm h.length 0 (ps.length+1+1) 13):=At.load ⟨_,a4,rfl⟩;refine⟨put h3 a 1 (.Cm (h.length+1) 0 (ps.length+1+1) 1),h.length,h.length+1,?_,⟨?_,?_,?_,?_,?_,?_⟩,⟨by rw[IB];omega,λj hj hn=>?_,λj hj=>?_⟩⟩
 .have em:Aw (.By 13) [.agg p.row]=some (.sl 13 [p.row]):=rfl;have sL:Aw (.By 1) [I 0]=some (.sl 1 [[I 0]]):=rfl;have hd:=Hm (n:=ps.length+1+1) (by omega) (by omega);have hA:A.len+1=((ps.length+1+1 -1:Nat):Int):=by unfold Ar.len;omega
  have lm:Aw (.len false) [.Cm h.length 0 (ps.length+1+1) 13]=some (I ((ps.length+1+1:Nat):Int)):=rfl;rw[RN.row] at em g1;rw[Ab,aAx,t97,RN.row,hA];simp only[Az,Bi,w.nodes,em,g1,s1,l2,sL,g2,s3,l4,lm,hd]
 .unfold Ar.add;simp only;rw[w.e,BI];rfl
 .unfold Ar.add;simp only[Aq,Bs];omega
 .rw[a4,Aq];rfl
 .rw[B4 (by omega)];exact n3
 .rw[B4 (by omega)];exact i3
 .exact⟨by omega,by omega,by omega⟩
 .have h1:j≠a:=λe=>hn (.inl e);have h2:j≠n:=λe=>hn (.inr (.inl e));have h3:j≠i:=λe=>hn (.inr (.inr e));rw[B4 h1];exact o3 j hj h2 h1 h3
 .rcases hj with rfl|rfl|rfl
  .exact .inl (.inl rfl)
  .exact .inr (Ac _)
  .exact .inr (Gg _)
theorem xk{v:Aa}{l:List AW}(hv:Bx l v)(hb:l.length<=1000000000)(hs:∀y∈l,BS.Ho y.AX)(h:Ae):BE cx 79 [v] h (.bool true) h:=by
 rw[Ab,aAv,t79];refine A9 (λk:Nat=>[ff,I (k:Int)]) (λk h1=>k<=l.length/\h1=h) (λk=>l.length-k) 0 rfl ⟨AO _,rfl⟩ ?_;rintro k h1 ⟨hk,rfl⟩;have hvl:=AL.Cq hv;rcases AT k l.length with hlt|D2
 .have e1:=AL.Bz (k:= .i64) hv hlt;rw[AW.row] at e1;have r1:∀{Q:Post} {h:Ae} {kk:Aa->IT},W cx (.Be 78 [I l[k].AX] kk) Q h↔W cx (kk (.bool (decide (BS.Ho l[k].AX)))) Q h:=(pO _).Be rfl rfl;simp only[Az,Bi,hvl,show(k:Int)<(l.length:Int) by omega,e1,r1,AD (hs _ (AJ hlt)),BG (show k<9223372036854775807 by omega)];exact AF.next (k+1) rfl ⟨hlt,rfl⟩ (by omega)
 .simp only[Az,Bi,hvl,show¬(k:Int)<(l.length:Int) by omega]
theorem xl{v:Aa}{l:List AW}(hv:Bx l v)(hb:l.length<=1000000000)(h:Ae):∃u,BE cx 80 [v] h u h/\Bx (Cf l) u:=by
 have hm:AS=140737488355328:=rfl;have hvl:=AL.Cq hv;have Ik:Ev cx 80 [v] h λr h'=>Bx (Cf l) r/\h'=h:=by
  unfold Ev;rw[aAw,t80];refine A9 (λs:Aa×Nat=>[s.1,I (s.2:Int)]) (λs h1=>s.2<=l.length/\Bx (Cf (l.take s.2)) s.1/\h1=h) (λs=>l.length-s.2) (.slnil,0) rfl ⟨AO _,.inr ⟨rfl,rfl⟩,rfl⟩ ?_;rintro⟨u,k⟩ h1 ⟨hk,hu,rfl⟩;simp only at hk hu;rcases AT k l.length with hlt|D2
  .have ZE:=AL.Cq hu;have tS:=OM (l:=l.take k);rw[Al] at tS;have e1:=AL.Bz (k:= .i64) hv hlt;rw[AW.row] at e1;simp only[Az,↓reduceIte,Bi,hvl,show(k:Int)<(l.length:Int) by omega];refine Ej (i:=2) (λj:Nat=>[.bool (((Cf (l.take k)).take j).any λz=>decide (Da l[k]=Da z)),I (j:Int)]) (λj h2=>j<=(Cf (l.take k)).length/\h2=h1) (λj=>(Cf (l.take k)).length-j) (λj h2=>j=(Cf (l.take k)).length/\h2=h1) 0 rfl ⟨AO _,rfl⟩ ?_ ?_
   .rintro j h2 ⟨hj,rfl⟩;rcases AT j (Cf (l.take k)).length with hlj|hgj
    .have e2:=AL.Bz (k:= .i64) hu hlj;rw[AW.row] at e2;have es:((Cf (l.take k)).take (j+1)).any (λz=>decide (Da l[k]=Da z))=(((Cf (l.take k)).take j).any (λz=>decide (Da l[k]=Da z))||decide (Da l[k]=Da (Cf (l.take k))[j])):=by rw[Av hlj,List.any_append];simp
     by_cases c1:(Cf (l.take k))[j].AX=l[k].AX
     .by_cases c2:(Cf (l.take k))[j].name=l[k].name
      .have hky:decide (Da l[k]=Da (Cf (l.take k))[j])=true:=by simp[Da,c1,c2]
       simp only[Az,Bi,ZE,show(j:Int)<((Cf (l.take k)).length:Int) by omega,e1,e2,AV c1,AD c2,BG (show j<9223372036854775807 by omega)];exact .next (j+1) (by rw[es,hky,Bool.or_true]) ⟨hlj,rfl⟩ (by omega)
      .have hky:decide (Da l[k]=Da (Cf (l.take k))[j])=false:=by simp[Da];exact λ_ h=>c2 h.symm
       simp only[Az,Bi,ZE,show(j:Int)<((Cf (l.take k)).length:Int) by omega,e1,e2,AV c1,AA c2,BG (show j<9223372036854775807 by omega)];exact .next (j+1) (by rw[es,hky,Bool.or_false]) ⟨hlj,rfl⟩ (by omega)
     .have hky:decide (Da l[k]=Da (Cf (l.take k))[j])=false:=by simp[Da];exact λh=>absurd h.symm c1
      simp only[Az,Bi,ZE,show(j:Int)<((Cf (l.take k)).length:Int) by omega,e1,e2,c1,BG (show j<9223372036854775807 by omega)];exact .next (j+1) (by rw[es,hky,Bool.or_false]) ⟨hlj,rfl⟩ (by omega)
    .simp only[Az,Bi,ZE,show¬(j:Int)<((Cf (l.take k)).length:Int) by omega];exact .Hy j rfl ⟨by omega,rfl⟩
   .rintro j h2 ⟨rfl,rfl⟩;have e3:Cf (l.take (k+1))=if(Cf (l.take k)).any (λz=>decide (Da l[k]=Da z)) then Cf (l.take k) else Cf (l.take k)++[l[k]]:=by rw[Av hlt];exact OU
    have em:Aw (.By 3) [.agg [I l[k].AX,.str l[k].name,.str l[k].value]]=some (.sl 3 [[I l[k].AX,.str l[k].name,.str l[k].value]]):=rfl;have a1:=AL.Ja (f:=AW.row) (b:=40) (a:=l[k]) hu (by omega);rw[AW.row] at a1;rw[Bu];cases hq:(Cf (l.take k)).any (λz=>decide (Da l[k]=Da z)) with
    |true=>rw[if_pos hq] at e3;simp only[Az,↓reduceIte,Bi,BG (show k<9223372036854775807 by omega)];exact AF.next (u,k+1) rfl ⟨hlt,by rw[e3];exact hu,rfl⟩ (by simp only;omega)
    |false=>rw[if_neg (by rw[hq];decide)] at e3;simp only[Az,Nat.reduceLeDiff,↓reduceIte,Bi,e1,em,a1,BG (show k<9223372036854775807 by omega)];exact AF.next (_,k+1) rfl ⟨hlt,by rw[e3];exact .mk,rfl⟩ (by simp only;omega)
  .rw[Ay D2] at hu;simp only[Az,↓reduceIte,Bi,hvl,show¬(k:Int)<(l.length:Int) by omega];exact⟨_,rfl,hu⟩
 obtain⟨r,h',hr,hu,rfl⟩:=Ik.ret;exact⟨r,hr,hu⟩
end
section
variable{h h':Ae}{a n i:Nat}{ps:List RN}{A:Ar}{x d:Int}{G:Nat->Prop}
theorem pQ(w:RA h a n i ps A)(hd:A.has d)(hk:(A.nd d).kind=1):BE cx 102 [Pt a 0,I d] h (I 0) h:=by rw[Ab,jn,aEI];simp only[Az,Bi,(Ha (x:=d) w).call,AD hd,w.nodes,w.addr hd,w.f0 hd,hk,ne_eq]
theorem aHN(w:RA h a n i ps A)(hl:A.len<=1000000000)(hd:A.has d)(hk:(A.nd d).kind=1)(k:Int)(s:As):
  ∃h' n' i' Ip,BE cx 209 [Pt a 0,I d,.agg [I k,I 0,.slnil,I 0,I 0,S [],.slnil,.str s,S [],S [],ff,I 0,I 0]] h (.tuple [I (A.len+1),I 0]) h'/\RA h' a n' i' Ip (A.add {kind:=k,Cy:=d,data:=s})/\Df h (Iz a n i) h' (Iz a n' i'):=by
 obtain⟨h1,n1,i1,r1,w1,x1⟩:=pP w hl ⟨{kind:=k,Cy:=d,data:=s},.slnil,.slnil,.inr ⟨rfl,rfl⟩,.inr ⟨rfl,rfl⟩⟩;refine⟨h1,n1,i1,_,?_,w1,x1⟩;rw[RN.row] at r1;rw[Ab,mh,aFc];simp only[Az,Bi,(pQ w hd hk).call,r1.call,ne_eq]
theorem aHO(w:RA h a n i ps A)(hl:A.len<=1000000000)(q:Bool):
  ∃h' n' i' Ip,BE cx 37 [Pt a 0,.bool q] h (I (A.len+1)) h'/\RA h' a n' i' Ip (A.add {kind:=1,Cy:=A.len+1,Cb:=q})/\Df h (Iz a n i) h' (Iz a n' i'):=by
 obtain⟨h1,n1,i1,r1,w1,x1⟩:=pP w hl ⟨{kind:=1,Cy:=A.len+1,Cb:=q},.slnil,.slnil,.inr ⟨rfl,rfl⟩,.inr ⟨rfl,rfl⟩⟩;refine⟨h1,n1,i1,_,?_,w1,x1⟩;have hn:=w.len;have e:((ps.length+1:Nat):Int)=A.len+1:=by unfold Ar.len;omega
 have lm:Aw (.len false) [.Cm n 0 (ps.length+1) 13]=some (I (A.len+1)):=by rw[<-e];rfl
 rw[RN.row] at r1;rw[Ab,aAh,t37];simp only[Az,Nat.reduceLeDiff,↓reduceIte,AI,Bi,w.nodes,lm,r1.call]
theorem RA.pS(w:RA h a n i ps A)(hx:A.has x):Aw (.Fm 1) [.Cm i 0 (ps.length+1) 1,I x]=some (Pt i x.toNat):=by obtain⟨h1,h2⟩:=w.at hx;have:=EZ (k:= .i64) (id:=i) (z:=1) h1;rwa [h2,Kk] at this
theorem RA.iat(w:RA h a n i ps A)(hx:A.has x):At h i x.toNat (I (A.inr x)):=by obtain⟨h1,h2⟩:=w.at hx;have h3:=hx.1;have hl:=w.len;have XT:=w.il;refine⟨_,w.hi,?_⟩;obtain⟨k,hk⟩:∃k,x.toNat=k+1:=⟨x.toNat-1,by omega⟩;rw[hk,Bl,tM,Cp];unfold Ar.inr;rw[if_pos hx,hk,GH,AE,Af (by omega)];rfl
theorem RA.aHQ(w:RA h a n i ps A)(hx:A.has x)(v:Int):RA (put h i x.toNat (I v)) a n i ps (A.H5 x v)/\Df h (Iz a n i) (put h i x.toNat (I v)) (Iz a n i):=by
 obtain⟨h1,h2⟩:=w.at hx;have h3:=hx.1;refine⟨⟨w.e,?_,(B4 w.d.2.1).trans w.ha,(B4 w.d.2.2).trans w.hn,?_,w.d⟩,⟨by rw[IB];exact Ac _,λj _ hn=>B4 λe=>hn (.inr (.inr e)),λj hj=> .inl hj⟩⟩;·unfold Ar.H5;simp only;rw[if_pos hx,Bj];exact w.il
 .rw[Hh w.hi];obtain⟨k,hk⟩:∃k,x.toNat=k+1:=⟨x.toNat-1,by omega⟩;unfold Ar.H5;simp only;rw[if_pos hx,hk,GH,Bl,List.set_cons_succ,Bl,Fk]
theorem aHR(w:RA h a n i ps A)(hl:A.len<=1000000000)(hd:A.has d):∃h' n' i' Ip,BE cx 184 [Pt a 0,I d] h (I (A.EV d)) h'/\RA h' a n' i' Ip (A.CW d)/\Df h (Iz a n i) h' (Iz a n' i'):=by
 by_cases h0:A.inr d=0;rotate_left
 .refine⟨h,n,i,ps,?_,by unfold Ar.CW;rw[if_pos h0];exact w,.refl⟩;have e:A.EV d=A.inr d:=by unfold Ar.EV;rw[if_pos h0]
  rw[Ab,nI,aA9,e];simp only[Az,Bi,w.VM,w.pS hd,(w.iat hd).load,h0]
 .obtain⟨h1,n1,i1,ZI,r1,w1,x1⟩:=aHO w hl false;have YM:(A.add {kind:=1,Cy:=A.len+1,Cb:=false}).has d:=Dj.2 (.inl hd);have LU:(A.add {kind:=1,Cy:=A.len+1,Cb:=false}).has (A.len+1):=Dj.2 (.inr rfl);obtain⟨w2,x2⟩:=w1.aHQ YM (A.len+1);have Rq:((A.add {kind:=1,Cy:=A.len+1,Cb:=false}).H5 d (A.len+1)).has (A.len+1):=LU;have hd2:(((A.add {kind:=1,Cy:=A.len+1,Cb:=false}).H5 d (A.len+1)).H5 (A.len+1) (A.len+1)).has d:=YM;obtain⟨w3,x3⟩:=w2.aHQ Rq (A.len+1);have e:A.EV d=A.len+1:=by unfold Ar.EV;rw[if_neg (by simpa using h0)]
  have eA:A.CW d=(((A.add {kind:=1,Cy:=A.len+1,Cb:=false}).H5 d (A.len+1)).H5 (A.len+1) (A.len+1)):=by unfold Ar.CW;rw[if_neg (by simpa using h0)]
  refine⟨_,n1,i1,ZI,?_,by rw[eA];exact w3,(x1.trans x2).trans x3⟩;have ei:(((A.add {kind:=1,Cy:=A.len+1,Cb:=false}).H5 d (A.len+1)).H5 (A.len+1) (A.len+1)).inr d=A.len+1:=by
   have il1:(A.add {kind:=1,Cy:=A.len+1,Cb:=false}).i.length=(A.add {kind:=1,Cy:=A.len+1,Cb:=false}).n.length:=w1.il;rw[Og w2.il,Og il1];split;·rfl
   .rw[if_pos ⟨rfl,YM⟩]
  have s1:=(w1.iat YM).store (u:= I (A.len+1)) rfl;have s2:=(w2.iat Rq).store (u:= I (A.len+1)) rfl;have ld:=(w3.iat hd2).load;rw[ei] at ld;rw[Ab,nI,aA9,e];simp only[Az,Bi,w.VM,w.pS hd,(w.iat hd).load,h0,r1.call,w1.VM,w1.pS YM,s1,w2.VM,w2.pS Rq,s2,w3.VM,ld]
theorem aHS{v:Aa}{l:List AW}(w:RA h a n i ps A)(hx:A.has x)(hk:(A.nd x).kind=4)(hv:Bx l v)(hb:l.length<=1000000000)(hs:∀y∈l,BS.Ho y.AX):
  ∃h' Ip,BE cx 221 [Pt a 0,I x,v] h (I 0) h'/\RA h' a n i Ip (A.Iu x l)/\Df h (Iz a n i) h' (Iz a n i):=by
 have r1:=xk hv hb hs h;obtain⟨u,r2,hu⟩:=xl hv hb h;obtain⟨h1,s1,w1,x1,_⟩:=w.wr hx (k:=6) (by decide) (v:=u) (AL.cells hu) (p:=⟨{A.nd x with Ax:=Cf l},(pR ps x).kv,u,w.LA hx,hu⟩) (by simp only[RN.row];rw[(w.pn hx).2];rfl);refine⟨h1,_,?_,w1,x1⟩;rw[Ab,mw,aFm];simp only[Az,Bi,(Ha (x:=x) w).call,AD hx,w.nodes,w.addr hx,w.f0 hx,hk,ne_eq,r1.call,r2.call,Bv,s1]
theorem aHT(p:RN)(h:Ae):BE cx 163 [.agg p.row] h (.bool (decide (YJ p.x))) h:=by rw[Ab,la,aE0,RN.row];simp only[Az,YJ];refine⟨λh1=>⟨λh2=>?_,λh2=>?_⟩,λh1=>?_⟩<;>simp[*]
theorem RA.xm(w:RA h a n i ps A)(hx:A.has x):Bb h (some 13) (Pt n (nR x))=some (.agg (pR ps x).row):=by
 obtain⟨h1,h2⟩:=w.at hx;have hlt:x.toNat<(RN.z::ps).length:=by simpa using h1
 have:=XP (br _) w.hn (i:=x.toNat) (by simpa using h1);rw[CY] at this;have e:=(w.pn hx).1;rw[Af hlt,BC] at e;rw[e] at this;exact this
theorem xn{v:Aa}{l:List AW}{sp:Int}{nm:As}(w:RA h a n i ps A)(hl:A.len+3<=1000000000)(hd:A.has d)(hk:(A.nd d).kind=1)(hs:BS.Ho sp)(hv:Bx l v)(hb:l.length<=1000000000)(uZ:∀y∈l,BS.Ho y.AX):
  ∃h' n' i' Ip,BE cx 98 [Pt a 0,I d,I sp,.str nm,v] h (.tuple [I (A.len+1),I 0]) h'/\RA h' a n' i' Ip (A.elem d sp nm l)/\Df h (Iz a n i) h' (Iz a n' i'):=by
 have r1:=xk hv hb uZ h;obtain⟨u,r2,hu⟩:=xl hv hb h;have huc:u.cells=[u]:=AL.cells hu;obtain⟨h1,n1,i1,r3,w1,x1⟩:=pP w (by omega) ⟨{kind:=4,Cy:=d,AX:=sp,name:=nm,Ax:=Cf l},.slnil,u,.inr ⟨rfl,rfl⟩,hu⟩;have r0:∀{Q:Post} {h:Ae} {kk:Aa->IT},W cx (.Be 78 [I sp] kk) Q h↔W cx (kk (.bool (decide (BS.Ho sp)))) Q h:=(pO _).Be rfl rfl;have LU:(A.add {kind:=4,Cy:=d,AX:=sp,name:=nm,Ax:=Cf l}).has (A.len+1):=Dj.2 (.inr rfl);have YM:(A.add {kind:=4,Cy:=d,AX:=sp,name:=nm,Ax:=Cf l}).has d:=Dj.2 (.inl hd);have TX:(A.add {kind:=4,Cy:=d,AX:=sp,name:=nm,Ax:=Cf l}).len=A.len+1:=by unfold Ar.add Ar.len;simp
 have r4:=aHT (pR (ps++[⟨{kind:=4,Cy:=d,AX:=sp,name:=nm,Ax:=Cf l},.slnil,u,.inr ⟨rfl,rfl⟩,hu⟩]) (A.len+1)) h1;rw[(w1.pn LU).2,HN,if_pos rfl] at r4;have ld:=w1.xm LU;rw[RN.row] at r3;unfold Ar.elem;simp only
 by_cases hT:YJ {kind:=4,Cy:=d,AX:=sp,name:=nm,Ax:=Cf l};rotate_left;·rw[if_neg hT];rw[AA hT] at r4;refine⟨h1,n1,i1,_,?_,w1,x1⟩;rw[Ab,zH,t98];simp only[Az,Nat.reduceLeDiff,↓reduceIte,AI,Bi,(pQ w hd hk).call,ne_eq,r0,AD hs,r1.call,r2.call,huc,r3.call,w1.nodes,w1.addr LU,ld,r4.call]
 .rw[if_pos hT];rw[AD hT] at r4;generalize hA1:A.add {kind:=4,Cy:=d,AX:=sp,name:=nm,Ax:=Cf l}=A1 at*;generalize ps++[(⟨{kind:=4,Cy:=d,AX:=sp,name:=nm,Ax:=Cf l},.slnil,u,.inr ⟨rfl,rfl⟩,hu⟩:RN)]=ZI at*;obtain⟨h2,n2,i2,jB,r5,w2,x2⟩:=aHR w1 (by omega) YM;have Xp:(A1.CW d).len<=A.len+2:=by
   unfold Ar.CW;split;·omega
   .rw[Q1,Q1];have:(A1.add {kind:=1,Cy:=A1.len+1}).len=A1.len+1:=by unfold Ar.add Ar.len;simp
    omega
  have Rq:(A1.CW d).has (A.len+1):=by
   unfold Ar.CW;split;·exact LU
   .rw[Mn,Mn];exact Dj.2 (.inl LU)
  obtain⟨h3,n3,i3,r6,w3,x3⟩:=pP w2 (by omega) ⟨{kind:=2,DT:=A.len+1,Cy:=A1.EV d},.slnil,.slnil,.inr ⟨rfl,rfl⟩,.inr ⟨rfl,rfl⟩⟩;have wk:((A1.CW d).add {kind:=2,DT:=A.len+1,Cy:=A1.EV d}).has (A.len+1):=Dj.2 (.inl Rq);have aCv:((A1.CW d).add {kind:=2,DT:=A.len+1,Cy:=A1.EV d}).nd (A.len+1)={kind:=4,Cy:=d,AX:=sp,name:=nm,Ax:=Cf l}:=by
   have DW:=Rq.2;rw[HN,if_neg (by unfold Ar.len at DW⊢;omega)];have h0:A1.nd (A.len+1)={kind:=4,Cy:=d,AX:=sp,name:=nm,Ax:=Cf l}:=by rw[<-hA1,HN,if_pos rfl]
   unfold Ar.CW;split;·exact h0
   .rw[Q2,Q2,HN,if_neg (by omega)];exact h0
  have WQ:=(w3.pn wk).2;rw[aCv] at WQ;obtain⟨h4,s4,w4,x4,_⟩:=w3.wr wk (k:=11) (by decide) (v:= I ((A1.CW d).len+1)) rfl (p:=⟨{kind:=4,Cy:=d,AX:=sp,name:=nm,Ax:=Cf l,cont:=(A1.CW d).len+1},(pR _ (A.len+1)).kv,(pR _ (A.len+1)).av,by have:=w3.LA wk;rw[aCv] at this;exact this,by have:=w3.ae wk;rw[aCv] at this;exact this⟩) (by simp only[RN.row];rw[WQ];rfl);refine⟨h4,n3,i3,_,?_,w4,((x1.trans x2).trans x3).trans x4⟩;rw[RN.row] at r6;have nd3:=w3.nodes;have ad3:=w3.addr wk;rw[Ab,zH,t98];simp only[Az,Nat.reduceLeDiff,↓reduceIte,AI,Bi,(pQ w hd hk).call,ne_eq,r0,AD hs,r1.call,r2.call,huc,r3.call,w1.nodes,w1.addr LU,ld,r4.call,r5.call,r6.call,nd3,ad3,s4]
end
structure RX(h:Ae)(bi a:Nat)(o c t:Aa)(G:Nat->Prop)(b:BS):Prop where
 hb:h[bi]?=some (.cells (EI a b o c t))
 o:BM b.AR o
 t:Dh b.tm t
 w:RW h G a b.a
 nb:¬G bi
section
variable{h h':Ae}{bi a:Nat}{o c t:Aa}{G G' F:Nat->Prop}{b:BS}{x:Int}{m:Nat}
theorem RX.lt(w:RX h bi a o c t G b):bi<h.length:=(Ah.1 w.hb).1
theorem RX.CP{h':Ae}(w:RX h bi a o c t G b)(hf:∀i,i=bi\/G i->h'[i]?=h[i]?):RX h' bi a o c t G b:=
 ⟨by rw[hf bi (.inl rfl)];exact w.hb,w.o,w.t,w.w.CP λi hi=>hf i (.inr hi),w.nb⟩
theorem RX.HB(w:RX h bi a o c t G b){u:Ae}:RX (h++u) bi a o c t G b:=w.CP λi hi=>Ad (by rcases hi with rfl|hi;exact w.lt;exact w.w.lt hi)
theorem RX.ld(w:RX h bi a o c t G b)(k:Nat):Bb h none (Pt bi k)=(EI a b o c t)[k]?:=by simp only[Bb,w.hb,Et]
theorem RX.l0(w:RX h bi a o c t G b):Bb h none (Pt bi 0)=some (Pt a 0):=w.ld 0
theorem RX.l1(w:RX h bi a o c t G b):Bb h none (Pt bi 1)=some (I b.Cy):=w.ld 1
theorem RX.l4(w:RX h bi a o c t G b):Bb h none (Pt bi 4)=some (I b.mode):=w.ld 4
theorem RX.l7(w:RX h bi a o c t G b):Bb h none (Pt bi 7)=some (I b.head):=w.ld 7
theorem RX.l9(w:RX h bi a o c t G b):Bb h none (Pt bi 9)=some (.bool b.Jj):=w.ld 9
theorem RX.di(w:RX h bi a o c t G b):Bb h none (Pt bi 15)=some (.bool b.Ei):=w.ld 15
theorem RX.l3(w:RX h bi a o c t G b):Bb h none (Pt bi 3)=some c:=w.ld 3
theorem RX.l6(w:RX h bi a o c t G b):Bb h none (Pt bi 6)=some t:=w.ld 6
theorem RX.pB(w:RX h bi a o c t G b):At h bi 3 c:=⟨_,w.hb,rfl⟩
theorem RX.pC{A':Ar}(w:RX h bi a o c t G b)(hp:RW h' G' a A')(x:Df h G h' G'):RX h' bi a o c t G' {b with a:=A'}/\Df h (own bi G) h' (own bi G'):=
 ⟨⟨by rw[x.old bi w.lt w.nb];exact w.hb,w.o,w.t,hp,λhg=>by rcases x.own bi hg with h|h;exact w.nb h;have:=w.lt;omega⟩,x.wz⟩
theorem RX.CN(w:RX h bi a o c t G b){u:Ae}:Df h (own bi G) (h++u) (own bi G):= .HB
theorem RX.put{k:Nat}{v o' c' t':Aa}{b':BS}(w:RX h bi a o c t G b)(e:(EI a b o c t).set k v=EI a b' o' c' t')(ea:b'.a=b.a)(ho:BM b'.AR o')(ht:Dh b'.tm t'):RX (Am.put h bi k v) bi a o' c' t' G b':=
 ⟨by rw[Hn w.hb,e];exact AN w.lt,ho,ht,by rw[ea];exact w.w.CP λi hi=>B4 λe=>w.nb (e▸hi),w.nb⟩
theorem RX.Ia{u:Aa}{l:List Item}(w:RX h bi a o c t G b)(hu:BM l u):RX (Am.put h bi 2 u) bi a u c t G {b with AR:=l}:=w.put rfl rfl hu w.t
theorem RX.Kf{u:Aa}{l:List Cd}(w:RX h bi a o c t G b):RX (Am.put h bi 3 u) bi a o u t G {b with A4:=l}:=w.put rfl rfl w.o w.t
theorem RX.st{k:Nat}{v v0:Aa}(w:RX h bi a o c t G b)(hk:(EI a b o c t)[k]?=some v0)(hv:v.cells=[v]):Cv h 1 (Pt bi k) v=some (Am.put h bi k v):=At.store (v:=v0) ⟨_,w.hb,hk⟩ hv
theorem RX.sN(w:RX h bi a o c t G b):Bb h (some 4) (Pt bi 10)=some (.agg b.ctx.row):=by simp only[Bb,w.hb];rfl
theorem RX.cZ(w:RX h bi a o c t G b)(v:Int):RX (Am.put h bi 4 (I v)) bi a o c t G {b with mode:=v}:=w.put rfl rfl w.o w.t
theorem RX.jI{u:Aa}{l:List Int}(w:RX h bi a o c t G b)(hu:Dh l u):RX (Am.put h bi 6 u) bi a o c u G {b with tm:=l}:=w.put rfl rfl w.o hu
theorem RX.step{A':Ar}{R:Ae->Prop}(w:RX h bi a o c t G b)(hPA:∀n i ps,RA h a n i ps b.a->∃h' n' i' Ip,R h'/\RA h' a n' i' Ip A'/\Df h (Iz a n i) h' (Iz a n' i')):
  ∃h' G',R h'/\RX h' bi a o c t G' {b with a:=A'}/\Df h (own bi G) h' (own bi G'):=by
 obtain⟨n,i,ps,wa,e⟩:=w.w;obtain⟨h',n',i',Ip,r,w',x⟩:=hPA n i ps wa;obtain⟨w2,x2⟩:=w.pC (G':=Iz a n' i') ⟨n',i',Ip,w',rfl⟩ (by rw[e];exact x);exact⟨h',_,r,w2,x2⟩
theorem Ln(w:RX h bi a o c t G b)(x:Int):BE cx 185 [Pt bi 0,I x] h (I (b.a.nd x).kind) h:=by
 obtain⟨n,i,ps,wa,e⟩:=w.w;rw[Ab,ls,aE3];by_cases hx:b.a.has x;·simp only[Az,Bi,w.l0,(Ha (x:=x) wa).call,AD hx,wa.nodes,wa.addr hx,wa.f0 hx]
 .rw[GM hx];simp only[Az,Bi,w.l0,(Ha (x:=x) wa).call,AA hx]
theorem pT(w:RX h bi a o c t G b)(x:Int):BE cx 210 [Pt bi 0,I x] h (I (if b.a.has x then(b.a.nd x).Cy else b.Cy)) h:=by
 obtain⟨n,i,ps,wa,e⟩:=w.w;rw[Ab,mi,aFd];by_cases hx:b.a.has x;·rw[if_pos hx];simp only[Az,Bi,w.l0,(Ha (x:=x) wa).call,AD hx,wa.nodes,wa.addr hx,wa.f3 hx]
 .rw[if_neg hx];simp only[Az,Bi,w.l0,(Ha (x:=x) wa).call,AA hx,w.l1]
theorem xo(w:RX h bi a o c t G b)(x:Int)(ws:As)(hw:ws.length<9223372036854775806)(hn:(b.a.nd x).name.length<9223372036854775807):BE cx 228 [Pt bi 0,I x,.str ws] h (.bool (decide ((b.a.nd x).kind=4/\(b.a.nd x).AX=1)&&FC ws (b.a.nd x).name)) h:=by
 obtain⟨n,i,ps,wa,e⟩:=w.w;rw[Ab,ni,aFt];by_cases hk:(b.a.nd x).kind=4
 .have hx:b.a.has x:=by
   by_cases hp:b.a.has x;·exact hp
   .rw[GM hp] at hk;simp at hk
  have r2:∀{Q:Post} {h:Ae} {kk:Aa->IT},W cx (.Be 188 [.str ws,.str (b.a.nd x).name] kk) Q h↔W cx (kk (.bool (FC ws (b.a.nd x).name))) Q h:=(aF0 ws _ hw hn).Be rfl rfl;by_cases hs:(b.a.nd x).AX=1;·simp only[Az,Bi,(Ln w x).call,AV hk,w.l0,wa.nodes,wa.addr hx,wa.f4 hx,AV hs,wa.f5 hx,r2,IV]
  .simp only[Az,Bi,(Ln w x).call,AV hk,w.l0,wa.nodes,wa.addr hx,wa.f4 hx,hs,IV]
 .simp only[Az,Bi,(Ln w x).call,hk,IV]
end
section
variable{h h':Ae}{bi a:Nat}{o c t:Aa}{G G' F:Nat->Prop}{b:BS}{x:Int}{m:Nat}
theorem RX.Zr(w:RX h bi a o c t G b)(ok:DG b)(rm:BQ b m)(p x bf:Int):∃er h' G',BE cx 187 [Pt a 0,I p,I x,I bf] h (I er) h'/\RX h' bi a o c t G' {b with a:=b.a.Fg p x bf}/\Df h (own bi G) h' (own bi G'):=by
 have hk:∀y,(b.a.nd y).AZ.length<=900000000:=λy=>Bt (VO ok.ok y) (by have:=rm.n;omega);obtain⟨h',G',⟨er,r⟩,w',x'⟩:=w.step (A':=b.a.Fg p x bf) (R:=λh'=>∃er:Int,BE cx 187 [Pt a 0,I p,I x,I bf] h (I er) h') λn i ps wa=>by obtain⟨er,h',Ip,r,w',x'⟩:=aHI (p:=p) (x:=x) (b:=bf) wa ok.ok hk;exact⟨h',n,i,Ip,⟨er,r⟩,w',x'⟩
 exact⟨er,h',G',r,w',x'⟩
theorem RX.self(w:RX h bi a o c t G b){A':Ar}(e:A'=b.a):RX h bi a o c t G {b with a:=A'}:=by subst e;exact w
theorem pU(w:RX h bi a o c t G b)(ok:DG b)(rm:BQ b m)(p x bf:Int):∃h' G',BE cx 99 [Pt bi 0,I p,I x,I bf] h (.tuple []) h'/\RX h' bi a o c t G' {b with a:=b.a.D0 x p bf}/\Df h (own bi G) h' (own bi G'):=by
 obtain⟨er,h1,G1,r1,w1,x1⟩:=w.Zr ok rm p x bf;by_cases hp:(b.a.nd p).kind=1;rotate_left
 .have e:b.a.D0 x p bf=b.a.Fg p x bf:=by unfold Ar.D0;rw[if_neg λh=>hp h.1]
  refine⟨h1,G1,?_,by rw[e];exact w1,x1⟩;rw[Ab,iY,t99];simp only[Az,Bi,(Ln w p).call,hp,w.l0,r1.call]
 by_cases hx:(b.a.nd x).kind=4;rotate_left
 .have e:b.a.D0 x p bf=b.a.Fg p x bf:=by unfold Ar.D0;rw[if_neg λh=>hx h.2.1]
  refine⟨h1,G1,?_,by rw[e];exact w1,x1⟩;rw[Ab,iY,t99];simp only[Az,Bi,(Ln w p).call,AV hp,(Ln w x).call,hx,w.l0,r1.call]
 have Oz:(b.a.nd p).AZ.length<=1000000000:=Bt (VO ok.ok p) (by have:=rm.n;omega);obtain⟨kv,r2,pA⟩:∃v,BE cx 186 [Pt a 0,I p] h v h/\Dh (b.a.nd p).AZ v:=by obtain⟨n,i,ps,wa,_⟩:=w.w;exact bt wa Oz
 have Ik:Ev cx 99 [Pt bi 0,I p,I x,I bf] h λr h'=>r= .tuple []/\∃G',RX h' bi a o c t G' {b with a:=b.a.D0 x p bf}/\Df h (own bi G) h' (own bi G'):=by
  unfold Ev;have hvl:=AL.Cq pA;rw[iY,t99];simp only[Az,Bi,(Ln w p).call,AV hp,(Ln w x).call,AV hx,w.l0,r2.call];refine A9 (λk:Nat=>[I (k:Int)]) (λk h1=>k<=(b.a.nd p).AZ.length/\(∀y∈(b.a.nd p).AZ.take k,¬(b.a.nd y).kind=4)/\h1=h) (λk=>(b.a.nd p).AZ.length-k) 0 rfl ⟨AO _,λy hy=>by simp at hy,rfl⟩ ?_;rintro k h2 ⟨hk,ha,rfl⟩;rcases AT k (b.a.nd p).AZ.length with hlt|D2
  .have e1:=AL.Bz (k:= .i64) pA hlt;rw[Cc] at e1;by_cases h4:(b.a.nd (b.a.nd p).AZ[k]).kind=4
   .have e:b.a.D0 x p bf=b.a:=by unfold Ar.D0;rw[if_pos ⟨hp,hx,_,AJ hlt,h4⟩]
    simp only[Az,Bi,hvl,show(k:Int)<((b.a.nd p).AZ.length:Int) by omega,e1,(Ln w _).call,AV h4];exact⟨_,rfl,rfl,G,w.self e,.refl⟩
   .simp only[Az,Bi,hvl,show(k:Int)<((b.a.nd p).AZ.length:Int) by omega,e1,(Ln w _).call,h4,BG (show k<9223372036854775807 by omega)];refine AF.next (k+1) rfl ⟨hlt,λy hy=>?_,rfl⟩ (by omega);rw[Av hlt] at hy;rcases Ao.1 hy with hy|hy
    .exact ha y hy
    .rw[Fl] at hy;rw[hy];exact h4
  .rw[Ay D2] at ha;have e:b.a.D0 x p bf=b.a.Fg p x bf:=by unfold Ar.D0;rw[if_neg λh=>by obtain⟨_,_,y,hy,h4⟩:=h;exact ha y hy h4]
   simp only[Az,Bi,hvl,show¬(k:Int)<((b.a.nd p).AZ.length:Int) by omega,w.l0,r1.call];exact⟨_,rfl,rfl,G1,by rw[e];exact w1,x1⟩
 obtain⟨r,h',hr,rfl,G',w',x'⟩:=Ik.ret;exact⟨h',G',hr,w',x'⟩
theorem aHU{v:Aa}{l:List Int}(hv:Dh l v)(hb:l.length<=1000000000)(x:Int)(h:Ae):BE cx 165 [v,I x] h (I (B9 (λy=>decide (x=y)) 0 l)) h:=by
 rw[Ab,lg,aE1];have hvl:=AL.Cq hv;refine A9 (λk:Nat=>[I 0,I (k:Int)]) (λk h1=>k<=l.length/\B9 (λy=>decide (x=y)) 0 l=B9 (λy=>decide (x=y)) k (l.drop k)/\h1=h) (λk=>l.length-k) 0 rfl ⟨AO _,rfl,rfl⟩ ?_;rintro k h1 ⟨hk,ha,rfl⟩;rcases AT k l.length with hlt|D2
 .have e1:=AL.Bz (k:= .i64) hv hlt;rw[Cc] at e1;rw[AG hlt,B9] at ha;simp only[Az,Bi,hvl,show(k:Int)<(l.length:Int) by omega,e1,BG (show k<9223372036854775807 by omega)];refine⟨λh2=>?_,λh2=>?_⟩;·rw[ha,if_pos (by simp[h2])]
  .rw[if_neg (by simpa using λe=>h2 e.symm)] at ha;exact AF.next (k+1) rfl ⟨hlt,ha,rfl⟩ (by omega)
 .rw[A3 D2,B9] at ha;simp only[Az,Bi,hvl,show¬(k:Int)<(l.length:Int) by omega,ha]
end
section
variable{h h':Ae}{bi a:Nat}{o c t:Aa}{G G' F:Nat->Prop}{b:BS}{x:Int}{m:Nat}
theorem bu(w:RX h bi a o c t G b)(x:Int):BE cx 306 [Pt a 0,I x] h (I (b.a.nd x).E8) h:=by obtain⟨n,i,ps,wa,_⟩:=w.w;exact aHB wa
theorem bw(w:RX h bi a o c t G b)(rm:BQ b m):BE cx 217 [Pt bi 0] h (.agg (EU b.AR).row) h:=by have ho:=rm.AR;have ld:Bb h none (Pt bi 2)=some o:=w.ld 2;rw[Ab,mq,aFj];simp only[Az,EB,ld,(aKX w.o (by omega)).call]
theorem aHV(w:RX h bi a o c t G b)(rm:BQ b m):BE cx 269 [Pt bi 0] h (.tuple [I b.I2.1,I b.I2.2]) h:=by
 have hl:=rm.AR;have ld:Bb h none (Pt bi 2)=some o:=w.ld 2;have r1:=aBV (h:=h) w.o (by omega) Ew;have r2:=aBV (h:=h) w.o (by omega) A5;have b1:=JJ (q:=Bp [Ew]) (l:=b.AR);have b2:=JJ (q:=Bp [A5]) (l:=b.AR);have at_:∀k:Nat,k<b.AR.length->Aw (.Fm 4) [o,I (k:Int)]=some (.CA [I (GB b.AR k).node,I (GB b.AR k).AX,.str (GB b.AR k).name,.bool (GB b.AR k).No]):=λk hk=>by have:=AL.Bz (k:= .i64) w.o hk;rw[Hg hk,this];rfl
 unfold BS.I2;simp only
 generalize AK (Bp [Ew]) b.AR=tb at r1 b1⊢;generalize AK (Bp [A5]) b.AR=tp at r2 b2⊢;rw[Ab,od,aFC];by_cases h1:tb<tp;·obtain⟨k,rfl⟩:∃k:Nat,tp=(k:Int):=⟨tp.toNat,by omega⟩;rw[if_pos h1];simp only[Az,Bi,ld,r2.call,Bv,r1.call,show(0:Int)<=(k:Int) by omega,h1,AP,at_ k (by omega),IV]
 .rw[if_neg h1];by_cases h2:tb<0;·rw[if_pos h2];by_cases h0:(0:Int)<=tp<;>simp only[Az,Bi,EB,r2.call,Bv,r1.call,h0,h1,AP,IV,h2,ld,(aGa (h:=h) w.o 0).call]
  .obtain⟨k,rfl⟩:∃k:Nat,tb=(k:Int):=⟨tb.toNat,by omega⟩;rw[if_neg h2];by_cases h3:(b.a.nd (GB b.AR k).node).E8=0
   .rw[if_neg (by simpa using h3)];by_cases h4:k=0
    .have e:max ((k:Int)-1) 0=(k:Int):=by omega
     by_cases h0:(0:Int)<=tp<;>simp only[Az,Bi,EB,r2.call,Bv,r1.call,h0,h1,AP,IV,show¬(k:Int)<0 by omega,ld,at_ k (by omega),w.l0,(bu w _).call,h3,ne_eq,AV (show(k:Int)=0 by omega),e]
    .have hd:=Hm (n:=k) (by omega) (by omega);have e:max ((k:Int)-1) 0=((k-1:Nat):Int):=by omega
     by_cases h0:(0:Int)<=tp<;>simp only[Az,Bi,EB,r2.call,Bv,r1.call,h0,h1,AP,IV,show¬(k:Int)<0 by omega,ld,at_ k (by omega),w.l0,(bu w _).call,h3,ne_eq,show¬(k:Int)=0 by omega,hd,at_ (k-1) (by omega),e]
   .rw[if_pos h3];by_cases h0:(0:Int)<=tp<;>simp only[Az,Bi,EB,r2.call,Bv,r1.call,h0,h1,AP,IV,h2,ld,at_ k (by omega),w.l0,(bu w _).call,h3,ne_eq]
end
theorem bz{s:As}:FC aSM s=decide (s∈GS):=DS (by decide+kernel) (by decide+kernel)
theorem sd{s:As}:FC aSI s=decide (s∈[A5]):=DS (by decide+kernel) (by decide+kernel)
theorem XW{A:Ar}{y:Int}{ws:List As}{q:Bool}(hq:q=decide ((A.nd y).name∈ws)):(decide ((A.nd y).kind=4/\(A.nd y).AX=1)&&q)=decide (Q4 ws A y):=by subst hq;rw[<-Bool.decide_and];rw[D1];unfold Q4;exact⟨λh=>⟨h.1.1,h.1.2,h.2⟩,λh=>⟨⟨h.1,h.2.1⟩,h.2.2⟩⟩
theorem Kj{A:Ar}(ok:Eu A 0)(y:Int):(A.nd y).cont≠0↔Q4 [A5] A y:=by
 by_cases hy:A.has y
 .constructor;·intro h;have:=(ok.Q3 y hy).SY h;exact⟨this.1,this.2.1,by rw[this.2.2];simp⟩
  .intro h;exact ok.i_ y hy (by have:=hy.1;omega) ⟨h.1,h.2.1,by simpa using h.2.2⟩
 .rw[GM hy];constructor;·intro h;simp at h
  .intro h;have:=h.1;rw[GM hy] at this;simp at this
section
variable{h h':Ae}{bi a:Nat}{o c t:Aa}{G G' F:Nat->Prop}{b:BS}{x:Int}{m:Nat}
theorem aHW(w:RX h bi a o c t G b)(hnm:∀x,(b.a.nd x).name.length<=1000)(x:Int):BE cx 228 [Pt bi 0,I x,S aSM] h (.bool (decide (Q4 GS b.a x))) h:=by have:=xo w x aSM (by decide) (by have:=hnm x;omega);rwa [XW bz] at this
theorem xq(w:RX h bi a o c t G b)(hnm:∀x,(b.a.nd x).name.length<=1000)(x:Int):BE cx 228 [Pt bi 0,I x,S aSI] h (.bool (decide (Q4 [A5] b.a x))) h:=by have:=xo w x aSI (by decide) (by have:=hnm x;omega);rwa [XW sd] at this
theorem pV(w:RX h bi a o c t G b)(ok:DG b)(rm:BQ b m)(hnm:∀x,(b.a.nd x).name.length<=1000)(x:Int):BE cx 205 [Pt bi 0,I x] h (.tuple [I (b.place x).1,I (b.place x).2]) h:=by
 have ho:=rm.AR;have ld:Bb h none (Pt bi 2)=some o:=w.ld 2;have lo:=AL.Cq w.o;have r1:=bw w rm;have r2:=aHV w rm;obtain⟨n,i,ps,wa,_⟩:=w.w;rw[Ab,mc,aE8];by_cases he:x=0/\b.AR=[]
 .have e:b.place x=(b.Cy,0):=by unfold BS.place;rw[if_pos he]
  have lo0:Aw (.len false) [o]=some (I 0):=by rw[lo,he.2];rfl
  rw[e];simp only[Az,Bi,AV he.1,ld,lo0,w.l1,AP]
 obtain⟨t',FJ⟩:∃t',t'=if x=0 then(EU b.AR).node else x:=⟨_,rfl⟩
 obtain⟨pb,XF⟩:∃pb:Int×Int,pb=if b.Ei=true/\Q4 GS b.a t' then b.I2 else(t',0):=⟨_,rfl⟩
 have e:b.place x=if(b.a.nd pb.1).cont≠0 then((b.a.nd pb.1).cont,0) else pb:=by unfold BS.place;rw[if_neg he];simp only;rw[<-FJ,<-XF]
 have r4:=aHW w hnm t';have r5:=xq w hnm pb.1;have Rl:=w.di;have aH:x=0->¬(b.AR.length:Int)=0:=λh0 h1=>he ⟨h0,tO.1 (by omega)⟩;rw[e];cases hfo:b.Ei with
 |false=>
  rw[hfo] at Rl;rw[if_neg (by rw[hfo];intro h;exact absurd h.1 (by decide))] at XF;subst XF;simp only at r5⊢;by_cases hT:Q4 [A5] b.a t'
  .have hc:=(Kj ok.ok t').2 hT;have hh:b.a.has t':=by
    by_cases hp:b.a.has t';·exact hp
    .have:=hT.1;rw[GM hp] at this;simp at this
   rw[AD hT] at r5;rw[if_pos hc];by_cases Mi:x=0;·rw[if_pos Mi] at FJ;subst FJ;simp only[Az,Bi,EB,AV Mi,ld,lo,aH Mi,r1.call,AP,Rl,r5.call,w.l0,wa.nodes,wa.addr hh,wa.xj hh]
   .rw[if_neg Mi] at FJ;subst FJ;simp only[Az,Bi,Mi,AP,Rl,r5.call,w.l0,wa.nodes,wa.addr hh,wa.xj hh]
  .have hc:=λh=>hT ((Kj ok.ok t').1 h);rw[AA hT] at r5;rw[if_neg hc];by_cases Mi:x=0;·rw[if_pos Mi] at FJ;subst FJ;simp only[Az,Bi,EB,AV Mi,ld,lo,aH Mi,r1.call,AP,Rl,r5.call]
   .rw[if_neg Mi] at FJ;subst FJ;simp only[Az,Bi,Mi,AP,Rl,r5.call]
 |true=>
  rw[hfo] at Rl;by_cases hw:Q4 GS b.a t'
  .rw[if_pos ⟨hfo,hw⟩] at XF;subst XF;rw[AD hw] at r4;by_cases hT:Q4 [A5] b.a b.I2.1
   .have hc:=(Kj ok.ok b.I2.1).2 hT;have hh:b.a.has b.I2.1:=by
     by_cases hp:b.a.has b.I2.1;·exact hp
     .have:=hT.1;rw[GM hp] at this;simp at this
    rw[AD hT] at r5;rw[if_pos hc];by_cases Mi:x=0;·rw[if_pos Mi] at FJ;subst FJ;simp only[Az,Bi,EB,AV Mi,ld,lo,aH Mi,r1.call,AP,Rl,r4.call,r2.call,r5.call,w.l0,wa.nodes,wa.addr hh,wa.xj hh]
    .rw[if_neg Mi] at FJ;subst FJ;simp only[Az,Bi,Mi,AP,Rl,r4.call,r2.call,r5.call,w.l0,wa.nodes,wa.addr hh,wa.xj hh]
   .have hc:=λh=>hT ((Kj ok.ok b.I2.1).1 h);rw[AA hT] at r5;rw[if_neg hc];by_cases Mi:x=0;·rw[if_pos Mi] at FJ;subst FJ;simp only[Az,Bi,EB,AV Mi,ld,lo,aH Mi,r1.call,AP,Rl,r4.call,r2.call,r5.call]
    .rw[if_neg Mi] at FJ;subst FJ;simp only[Az,Bi,Mi,AP,Rl,r4.call,r2.call,r5.call]
  .rw[if_neg (λh=>hw h.2)] at XF;subst XF;rw[AA hw] at r4;simp only at r5⊢;by_cases hT:Q4 [A5] b.a t'
   .have hc:=(Kj ok.ok t').2 hT;have hh:b.a.has t':=by
     by_cases hp:b.a.has t';·exact hp
     .have:=hT.1;rw[GM hp] at this;simp at this
    rw[AD hT] at r5;rw[if_pos hc];by_cases Mi:x=0;·rw[if_pos Mi] at FJ;subst FJ;simp only[Az,Bi,EB,AV Mi,ld,lo,aH Mi,r1.call,AP,Rl,r4.call,r5.call,w.l0,wa.nodes,wa.addr hh,wa.xj hh]
    .rw[if_neg Mi] at FJ;subst FJ;simp only[Az,Bi,Mi,AP,Rl,r4.call,r5.call,w.l0,wa.nodes,wa.addr hh,wa.xj hh]
   .have hc:=λh=>hT ((Kj ok.ok t').1 h);rw[AA hT] at r5;rw[if_neg hc];by_cases Mi:x=0;·rw[if_pos Mi] at FJ;subst FJ;simp only[Az,Bi,EB,AV Mi,ld,lo,aH Mi,r1.call,AP,Rl,r4.call,r5.call]
    .rw[if_neg Mi] at FJ;subst FJ;simp only[Az,Bi,Mi,AP,Rl,r4.call,r5.call]
end
def Nm(A:Ar):Prop:=∀x,(A.nd x).name.length<=1000
section
variable{A A':Ar}{b:BS}{q:dI}{m j:Nat}{nm:As}{l:List AW}{sp p x:Int}
theorem Nm.le(h:Nm A)(hl:Le A A')(hn:A'.n.length=A.n.length):Nm A':=λy=>by
 by_cases hy:A.has y;·rw[hl.name y hy];exact h y
 .have:¬A'.has y:=by unfold Ar.has at hy⊢;rw[hn];exact hy
  rw[GM this];simp
theorem Nm.add(h:Nm A){y:Eh}(hy:y.name.length<=1000):Nm (A.add y):=λx=>by
 rw[HN];split;·exact hy
 .exact h x
theorem Nm.set(h:Nm A){y:Eh}{k:Int}(hy:y.name.length<=1000):Nm (A.set k y):=λx=>by
 rw[IJ];split;·exact hy
 .exact h x
theorem Nm.H5(h:Nm A){k v:Int}:Nm (A.H5 k v):=λx=>by rw[Q2];exact h x
theorem Nm.Fg(h:Nm A){bf:Int}:Nm (A.Fg p x bf):=h.le M3 (IY (A:=A)).n
theorem Nm.D0(h:Nm A){bf:Int}:Nm (A.D0 x p bf):=h.le H6 (IZ (A:=A)).n
theorem Nm.CW(h:Nm A){d:Int}:Nm (A.CW d):=by
 unfold Ar.CW;split;·exact h
 .exact(h.add (by simp)).H5.H5
theorem Nm.elem(h:Nm A){d:Int}(hn:nm.length<=1000):Nm (A.elem d sp nm l):=by
 have h1:Nm (A.add {kind:=4,Cy:=d,AX:=sp,name:=nm,Ax:=Cf l}):=h.add hn;unfold Ar.elem;simp only
 split;·exact(h1.CW.add (by simp)).set hn
 .exact h1
theorem Nm.mk(h:Nm b.a)(hn:nm.length<=1000):Nm (b.D9 nm l sp p).a:=by
 unfold BS.D9;split;·exact h.elem (by rw[Vv];exact hn)
 .exact h
theorem Nm.L2(h:Nm b.a)(hn:nm.length<=1000):Nm (b.Ex nm l sp).a:=by
 unfold BS.Ex;split;·exact(h.mk hn).D0
 .exact h
theorem Nm.Kw(h:Nm A){s:As}{bf:Int}:Nm (BS.Kw A s p bf):=by
 unfold BS.Kw;split
 .split
  .split;·exact h.set (h _)
   .exact(h.add (by simp)).D0
  .exact(h.add (by simp)).D0
 .exact h
theorem Nm.Eo(h:Nm A){s:As}{bf:Int}:Nm (BS.Eo A s p bf):=by
 unfold BS.Eo;split;·exact(h.add (by simp)).D0
 .exact h
theorem Nm.Iv:∀{l:List Cd} {b:BS},Nm b.a->(∀e∈l,e.name.length<=1000)->Nm (BS.Iv l b).2.a
 |[],b,h,_=>h
 |e::l,b,h,hl=>by rw[BS.Iv];exact Nm.Iv (h.L2 (hl e (by simp))) λx hx=>hl x (by simp[hx])
theorem Nm.GF(h:Nm b.a):Nm (b.GF l x).a:=by
 unfold BS.GF;split;·exact h.set (h _)
 .exact h
theorem Nm.EM{blk anc:Int}{far i:Nat}{l:Int}{mk:Nat}(h:Nm b.a)(r:BQ b m):Nm (BS.EM blk anc far i b l mk).1.a:=by
 unfold BS.EM;simp only
 split;·exact h
 .split;·exact h
  .rename_i he _;obtain⟨p,hp,e1,_,_,_⟩:=GG (L1.1 he);rw[e1,AQ,AE,Af hp,Ib];exact(h.mk (r.Dl _ (AJ hp)).1).Fg
theorem Nm.Jk{blk anc:Int}{far k m:Nat}:∀{c:Nat} {s:BS×Int×Nat},Nm s.1.a->BQ s.1 (m+4*c)->Nm (BS.Jk blk anc far k c s).1.a
 |0,s,h,_=>h
 |c+1,s,h,r=>Nm.Jk (c:=c) (h.EM r) (Na (m:=m+4*c) (r.le (by omega)))
theorem Nm.Cj{n:Int}:∀{l:List Int} {A:Ar},Nm A->Nm (BS.Cj A n l)
 |[],A,h=>h
 |y::l,A,h=>Nm.Cj (l:=l) (h.Fg (p:=n) (x:=y) (bf:=0))
theorem Nm.FO{fe:Cd}{blk anc:Int}{s:BS×Int×Nat}(h:Nm s.1.a)(Jm:fe.name.length<=1000):Nm (BS.FO fe blk anc s).a:=by
 unfold BS.FO;simp only
 generalize XF:s.1.place anc=pb;have h2:Nm (s.1.a.D0 s.2.1 pb.1 pb.2):=h.D0;have h3:=Nm.mk (b:={s.1 with a:=s.1.a.D0 s.2.1 pb.1 pb.2}) (nm:=fe.name) (l:=fe.Ax) (sp:=1) (p:=blk) h2 Jm;exact(Nm.Cj h3).Fg
theorem Nm.round(h:Nm b.a)(r:BQ b (m+4*b.AR.length+10)):Nm (b.round nm).2.a:=by
 unfold BS.round;simp only
 split
 .have:(b.C1 nm).a=b.a:=by
   unfold BS.C1;split;·split<;>rfl
   .rfl
  rw[this];exact h
 .rename_i hf;obtain⟨f,GI,ef⟩:=Rh (L1.1 hf);have Ua:b.A4.getD (FL nm b.A4).toNat Cd.zero=b.A4[f]:=by rw[ef,AQ,AE,Af GI];rfl
  have Jm:=r.Dl _ (AJ GI);rw[Ua];split;·exact h
  .split;·exact h
   .split;·exact h
    .have hlt:(Dz b.A4[f].node b.AR).toNat-1 -(AK (Bm b.A4[f].node) b.AR).toNat<=b.AR.length:=by
      rw[HM];split;·omega
      .unfold Em;split;·rename_i j hj;have:=(HD.1 hj).1;rw[A7] at this;omega
       .omega
     exact Nm.FO (Nm.Jk (m:=m) h (r.le (by omega))) Jm.1
theorem Nm.DK:∀{n:Nat} {b:BS} {k:Nat},Nm b.a->b.AR.length<=k->BQ b (m+n*(4*(k+n)+10))->Nm (BS.DK n b nm).a
 |0,b,k,h,hk,r=>h
 |n+1,b,k,h,hk,r=>by
  have e:(n+1)*(4*(k+(n+1))+10)=n*(4*(k+1+n)+10)+(4*(k+(n+1))+10):=by rw[BA,Ey,show k+(n+1)=k+1+n by omega]
  rw[e] at r;have h1:=Nb (m:=m+n*(4*(k+1+n)+10)) (r.le (by omega)) nm;have h2:=h.round (m:=m+n*(4*(k+1+n)+10)) (nm:=nm) (r.le (by omega));unfold BS.DK;simp only
  split;·exact Nm.DK (n:=n) (k:=k+1) h2 (by omega) h1.1
  .exact h2
theorem aCw(h:Nm b.a)(sz:Sz b (j+1))(hq:bk q):Nm (VV b q).1.a:=VW (P:=λr=>Nm r.1.a)
 (h.L2 hq.name)
 (h.L2 hq.name)
 (Nm.L2 (b:=b) (sp:=1) (l:=q.Ax) h hq.name)
 (h.Kw)
 (by
  dsimp only;unfold BS.JW;split;·exact h.Eo
  .exact h.Eo)
 (Nm.L2 (b:=b) (sp:=1) (l:=q.Ax) h hq.name)
 (by
  dsimp only;unfold BS.IK;split;·exact h
  .exact h)
 (Nm.Iv h λe he=>(sz.rm.Dl e (Bw he)).1)
 (by
  dsimp only;unfold BS.C1;split
  .split;·exact h
   .exact h
  .exact h)
 (by
  dsimp only;unfold BS.Hp;split
  .unfold BS.P9;split;·exact h
   .exact h
  .exact Nm.DK (n:=8) (k:=b.AR.length) (m:=5000000*j) h (Ac _) (sz.rm.le (by have:=sz.AR;omega)))
 h
 (h.GF)
 (by
  dsimp only;unfold BS.C7;split;·exact h
  .exact h)
 h
 h
 h
 h
 (by
  dsimp only;unfold BS.P9;split;·exact h
  .exact h)
 h
 h
 h
 h
 h
 (h.mk hq.name)
 h
theorem pW(q:Bool):Nm (CV q).a:=λx=>by rw[LI];split<;>simp
theorem b_(s:DU):Nm s.b.a:=by
 have h3:Nm (Ih s.AX s.name s.Ax s.Cb).a:=((pW s.Cb).mk (nm:=Dc) (by decide)).D0;have h4:Nm (Ki s.AX s.name s.Ax s.Cb).a:=by unfold Ki;split<;>exact h3
 unfold DU.b Rk;split
 .split;·exact h4
  .exact h4
 .exact pW _
end
section
variable{h h':Ae}{bi a:Nat}{o c t:Aa}{G G' F:Nat->Prop}{b:BS}{x:Int}{m:Nat}
variable{nm:As}{av:Aa}{l:List AW}{r:List Aa}{sp p:Int}
theorem aCx(ok:DG b)(y:Int):(if b.a.has y then(b.a.nd y).Cy else b.Cy)=if(b.a.nd y).Cy≠0 then(b.a.nd y).Cy else b.Cy:=by
 by_cases hy:b.a.has y;·have:=(ok.ok.Cy y hy).1.1;rw[if_pos hy,if_pos (by omega)]
 .rw[if_neg hy,GM hy,if_neg (by simp)]
theorem sg(w:RX h bi a o c t G b)(ok:DG b)(rm:BQ b (m+3))(hnm:Nm b.a)(hr:M8 nm av r)(hv:Bx l av)(hl:DL l)(hn:nm.length<=1000)(p sp:Int):
  ∃h' G',BE cx 140 [Pt bi 0,.agg r,I sp,I p] h (.agg (b.FE nm l sp).row) h'/\RX h' bi a o c t G' (b.D9 nm l sp p)/\Df h (own bi G) h' (own bi G'):=by
 obtain⟨c0,c2,c3,c4,c5,c6,c7,c9,Tm,U0,rfl⟩:=hr;have r0:∀{Q:Post} {h:Ae} {kk:Aa->IT},W cx (.Be 78 [I sp] kk) Q h↔W cx (kk (.bool (decide (BS.Ho sp)))) Q h:=(pO _).Be rfl rfl;by_cases hs:BS.Ho sp;rotate_left
 .refine⟨h,G,?_,by unfold BS.D9;rw[if_neg hs];exact w,.refl⟩;have e:b.FE nm l sp=Item.zero:=by unfold BS.FE;rw[if_neg hs]
  rw[e,LZ,Ab,mP,aAN];simp only[Az,↓reduceIte,AI,Bi,r0,AA hs]
 obtain⟨u,r1,hu⟩:=f180 (h:=h) hv (λy hy=>(hl.2 y hy).1) hl.1 sp;have hd:=Sa ok (p:=p);have sp2:∀y∈l.map (CM sp),BS.Ho y.AX:=by intro y hy;obtain⟨z,_,rfl⟩:=Bk.1 hy;exact iF
 have hlen:(l.map (CM sp)).length<=1000000000:=by rw[Ai];have:=hl.1;omega
 obtain⟨h',G',r3,w3,x3⟩:=w.step (A':=b.a.elem (b.Im p) sp (BS.Io sp nm) (l.map (CM sp))) (R:=λh'=>BE cx 98 [Pt a 0,I (b.Im p),I sp,.str (BS.Io sp nm),u] h (.tuple [I (b.a.len+1),I 0]) h') λn i ps wa=>by obtain⟨h',n',i',Ip,r,wp,xp⟩:=xn (nm:=BS.Io sp nm) wa (rm.len (by omega)) hd.1 hd.2 hs hu hlen sp2;exact⟨h',n',i',Ip,r,wp,xp⟩
 have Nt:=Vv (sp:=sp) (nm:=nm);have r4:=aF5 (h:=h') hu (λy hy=>by obtain⟨z,hz,rfl⟩:=Bk.1 hy;rw[XH];have:=(hl.2 z hz).2;have:AS=140737488355328:=rfl;omega) (by omega) sp (BS.Io sp nm) (by omega);have em:Aw (.Br [I 0,I 0,S [],ff] [(0,1),(1,1),(2,1),(3,1)]) [I (b.a.len+1),I sp,.str (BS.Io sp nm),.bool (EH sp (BS.Io sp nm) (l.map (CM sp)))]=some (.agg (b.FE nm l sp).row):=by rw[Xy];unfold BS.FE;rw[if_pos hs]
 have r5:=xq w hnm p;refine⟨h',G',?_,by unfold BS.D9;rw[if_pos hs];exact w3,x3⟩;have XT:=λ(y:Item)=>@Item.Co y;obtain⟨n,i,ps,wa,_⟩:=w.w;have key:∀(Q:Post) (kk:EL->List Aa->IT) (p':Int),p'=(if Q4 [A5] b.a p then(b.a.nd p).cont else p)->(if b.a.has p' then(b.a.nd p').Cy else b.Cy)=b.Im p:=by
  intro Q kk p' e;rw[aCx ok];unfold BS.Im;by_cases hT:Q4 [A5] b.a p;·rw[if_pos hT] at e;subst e;rw[if_pos ((Kj ok.ok p).2 hT)]
  .rw[if_neg hT] at e;subst e;rw[if_neg (λh=>hT ((Kj ok.ok p').1 h))]
 have key:=key (λ_ _ _=>True) (λ_ _=> .fail);rw[Ab,mP,aAN];by_cases hT:Q4 [A5] b.a p
 .have hh:b.a.has p:=by
   by_cases hp:b.a.has p;·exact hp
   .have:=hT.1;rw[GM hp] at this;simp at this
  have r6:=pT w (b.a.nd p).cont;rw[key _ (if_pos hT).symm] at r6;rw[AD hT] at r5;by_cases h2:sp=2
  .have e:BS.Io sp nm=Ca nm HX:=by unfold BS.Io;rw[if_pos h2]
   rw[e] at r3 r4 em;simp only[Az,↓reduceIte,AI,Bi,EB,r0,AD hs,r1.call,AV h2,(f181 nm).Be rfl rfl,AP,r5.call,w.l0,wa.nodes,wa.addr hh,wa.xj hh,r6.call,Bv,r3.call,r4.call,em,XT]
  .have e:BS.Io sp nm=nm:=by unfold BS.Io;rw[if_neg h2]
   rw[e] at r3 r4 em;simp only[Az,↓reduceIte,AI,Bi,EB,r0,AD hs,r1.call,h2,AP,r5.call,w.l0,wa.nodes,wa.addr hh,wa.xj hh,r6.call,Bv,r3.call,r4.call,em,XT]
 .have r6:=pT w p;rw[key _ (if_neg hT).symm] at r6;rw[AA hT] at r5;by_cases h2:sp=2
  .have e:BS.Io sp nm=Ca nm HX:=by unfold BS.Io;rw[if_pos h2]
   rw[e] at r3 r4 em;simp only[Az,↓reduceIte,AI,Bi,EB,r0,AD hs,r1.call,AV h2,(f181 nm).Be rfl rfl,AP,r5.call,w.l0,r6.call,Bv,r3.call,r4.call,em,XT]
  .have e:BS.Io sp nm=nm:=by unfold BS.Io;rw[if_neg h2]
   rw[e] at r3 r4 em;simp only[Az,↓reduceIte,AI,Bi,EB,r0,AD hs,r1.call,h2,AP,r5.call,w.l0,r6.call,Bv,r3.call,r4.call,em,XT]
end
end Go.Am
end
