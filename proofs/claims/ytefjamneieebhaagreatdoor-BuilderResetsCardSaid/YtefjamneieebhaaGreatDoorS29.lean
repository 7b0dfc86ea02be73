/- Lemmas -/
import Derived.Test.YtefjamneieebhaaGreatDoorS28
set_option linter.unusedVariables false
set_option linter.unusedSimpArgs false
section
namespace Go.Am
open Go
set_option maxRecDepth 100000
theorem MC:∀l:List Int,(l.map Cb).flatten=l.map (Aa.int .i64)
 |[]=>rfl
 |x::l=>by simp[Cb,MC l]
def uP(q:Bool):Ar:={n:=[{kind:=1,Cy:=1,Cq:=q}],i:=[0]}
def C4(q:Bool):BS:={a:=uP q,Cy:=1,AO:=[],A4:=[],mode:=1,Q9:=0,tm:=[],head:=0,L0:=0,Im:=false,ctx:=Item.zero,fs:=true,Eh:=false,WR:=[],skip:=false,sw:=0,stop:=false}
noncomputable def Ih(sp:Int)(nm:Ap)(l:List AU)(q:Bool):BS:=
 {(C4 q).D8 Da [] 1 1 with a:=((C4 q).D8 Da [] 1 1).a.DZ ((C4 q).FA Da [] 1).node 1 0,AO:=((C4 q).D8 Da [] 1 1).AO++[(C4 q).FA Da [] 1],Im:=true,ctx:=⟨0,sp,nm,EH sp nm l⟩}
noncomputable def KB(sp:Int)(nm:Ap)(l:List AU)(q:Bool):BS:=if Bp [A5] (Ih sp nm l q).ctx then{Ih sp nm l q with tm:=[18]} else Ih sp nm l q
noncomputable def Sv(sp:Int)(nm:Ap)(l:List AU)(q f:Bool):BS:=if f then{(KB sp nm l q).HN with L0:= -1} else(KB sp nm l q).HN
structure Ek where
 Im:Bool
 AZ:Int
 name:Ap
 Ax:List AU
 Cq:Bool
 L0:Bool
noncomputable def Ek.b(s:Ek):BS:=if s.Im then Sv s.AZ s.name s.Ax s.Cq s.L0 else C4 s.Cq
def Lj(s:Ek)(av:Aa):List Aa:=[.bool s.Im,I s.AZ,.str s.name,av,.bool s.Cq,.bool s.L0]
theorem aCx(q:Bool):Eu (uP q) 0:=by
 have h0:Eu (⟨[],[]⟩:Ar) 0:=by
  have hn:∀h,¬(⟨[],[]⟩:Ar).has h:=λh hh=>by have h1:=hh.1;have h2:=hh.2;simp at h2;omega
  exact⟨rfl,λh hh=>absurd hh (hn h),λh hh=>absurd hh (hn h),λh hh=>absurd hh (hn h),λh hh=>absurd hh (hn h),λh hh=>absurd hh (hn h),λh hh=>absurd hh (hn h),λh hh=>absurd hh (hn h),λh hh=>absurd hh (hn h),λh hh=>absurd hh (hn h),⟨λ_=>0,λh hh=>absurd hh (hn h)⟩⟩
 have hx:uK {kind:=1,Cy:=1,Cq:=q}:=by constructor<;>simp[Ce,GA]
 exact Vt h0 hx (.inl ⟨rfl,rfl⟩) rfl rfl rfl rfl (λh=>absurd h.1 (show¬(1:Int)=4 by decide))
theorem No(q:Bool):DG (C4 q):=by refine⟨aCx q,⟨⟨HT 1,HT 1⟩,rfl⟩,λi hi=>(nomatch hi),List.nodup_nil,λe he=>(nomatch he),List.nodup_nil⟩
theorem Np{q:Bool}(x:Int):(C4 q).a.nd x=if x=1 then{kind:=1,Cy:=1,Cq:=q} else{}:=by
 unfold Ar.nd;by_cases h:x=1;·subst h;rfl
 .rw[if_neg h,if_neg];intro hh;have h1:=hh.1;have h2:=hh.2;simp[C4,uP] at h2;omega
theorem Nq(q:Bool):Sz (C4 q) 101:=by
 refine⟨⟨by simp[C4,uP],λx=>?_,λx=>?_,by simp[C4],by simp[C4],by simp[C4],λe he=>(nomatch he),λi hi=>(nomatch hi)⟩,by simp[C4],by simp[C4]⟩;·rw[Np];split<;>simp
 .rw[Np];split<;>simp
section
variable{h h':Ad}{bi a:Nat}{o c t:Aa}{G G' F:Nat->Prop}{b:BS}{x:Int}{m j:Nat}{q:ZP}
variable{nm:Ap}{av:Aa}{l:List AU}{r:List Aa}{sp p:Int}
theorem aMj(h:Ad)(q:Bool):∃h1 h',BI cx 51 [] h (Pt h.length 0) h1/\BI cx 52 [Pt h.length 0,.bool q] h1 (I 1) h'/\PA h' h.length (h.length+1) none [⟨{kind:=1,Cy:=1,Cq:=q},.slnil,.slnil,rfl⟩] (uP q)/\h'=h++[.cells [.Cl (h.length+1) 0 1 13,.map none],.cells [I 1,I 0,.slnil,I 1,I 0,S [],.slnil,S [],S [],S [],.bool q,I 0,I 0]]:=by
 have bF:AS=140737488355328:=rfl;have g1:∀u:Ad,Fk u 13 168 .slnil (.sl 13 [[I 1,I 0,.slnil,I 0,I 0,S [],.slnil,S [],S [],S [],.bool q,I 0,I 0]])=some (u++[.cells [I 1,I 0,.slnil,I 0,I 0,S [],.slnil,S [],S [],S [],.bool q,I 0,I 0]],.Cl u.length 0 1 13):=λu=>rfl;obtain⟨H1,hH1⟩:∃H1,H1=h++[Dc.cells [.slnil,.map none]]:=⟨_,rfl⟩;have c1:H1[h.length]?=some (.cells [.slnil,.map none]):=by rw[hH1];simp
 have T3:H1.length=h.length+1:=by rw[hH1];simp
 have g2:=g1 H1;rw[T3] at g2;have t1:At H1 h.length 0 .slnil:=⟨_,c1,rfl⟩;have c2:(H1++[Dc.cells [I 1,I 0,.slnil,I 0,I 0,S [],.slnil,S [],S [],S [],.bool q,I 0,I 0]])[h.length]?=some (.cells [.slnil,.map none]):=(Af (by omega)).trans c1;have n2:(H1++[Dc.cells [I 1,I 0,.slnil,I 0,I 0,S [],.slnil,S [],S [],S [],.bool q,I 0,I 0]])[h.length+1]?=some (.cells [I 1,I 0,.slnil,I 0,I 0,S [],.slnil,S [],S [],S [],.bool q,I 0,I 0]):=by rw[<-T3];simp
 have Xv:(H1++[Dc.cells [I 1,I 0,.slnil,I 0,I 0,S [],.slnil,S [],S [],S [],.bool q,I 0,I 0]]).length=h.length+2:=by rw[As,T3];rfl
 have e12:H1++[Dc.cells [I 1,I 0,.slnil,I 0,I 0,S [],.slnil,S [],S [],S [],.bool q,I 0,I 0]]=h++[.cells [.slnil,.map none],.cells [I 1,I 0,.slnil,I 0,I 0,S [],.slnil,S [],S [],S [],.bool q,I 0,I 0]]:=by rw[hH1,AD];rfl
 generalize H1++[Dc.cells [I 1,I 0,.slnil,I 0,I 0,S [],.slnil,S [],S [],S [],.bool q,I 0,I 0]]=H2 at*;have t2:At H2 h.length 0 .slnil:=⟨_,c2,rfl⟩;have s2:=t2.store (u:= .Cl (h.length+1) 0 1 13) rfl;have c3:=Hg (k:=0) (v:= .Cl (h.length+1) 0 1 13) c2;have n3:(put H2 h.length 0 (.Cl (h.length+1) 0 1 13))[h.length+1]?=_:=(B4 (by omega)).trans n2;have e3:put H2 h.length 0 (.Cl (h.length+1) 0 1 13)=h++[.cells [.Cl (h.length+1) 0 1 13,.map none],.cells [I 1,I 0,.slnil,I 0,I 0,S [],.slnil,S [],S [],S [],.bool q,I 0,I 0]]:=by rw[Hm c2,e12,B2 _ _ (Ac _),DC];rfl
 generalize put H2 h.length 0 (.Cl (h.length+1) 0 1 13)=H3 at*;have l3:A6 H3 none (Pt h.length 0)=some (.Cl (h.length+1) 0 1 13):=At.load ⟨_,c3,rfl⟩;have e4:Aw (.Fj 13) [.Cl (h.length+1) 0 1 13,I 0]=some (.ptr (some (h.length+1,0))):=EX (k:= .i64) (i:=0) (by decide);have t3:At H3 (h.length+1) 3 (I 0):=⟨_,n3,rfl⟩;have s3:=t3.store (u:=I 1) rfl;have c4:(put H3 (h.length+1) 3 (I 1))[h.length]?=_:=(B4 (by omega)).trans c3;have n4:=Hg (k:=3) (v:=I 1) n3;have e5:put H3 (h.length+1) 3 (I 1)=h++[.cells [.Cl (h.length+1) 0 1 13,.map none],.cells [I 1,I 0,.slnil,I 1,I 0,S [],.slnil,S [],S [],S [],.bool q,I 0,I 0]]:=by rw[Hm n3,e3,B2 _ _ (by omega),Nat.add_sub_cancel_left];rfl
 refine⟨H1,put H3 (h.length+1) 3 (I 1),?_,?_,⟨rfl,rfl,c4,n4,?_,?_,.inl ⟨rfl,λk=>?_⟩⟩,e5⟩;·rw[Ab,zF,t51];simp only[AB,↓reduceIte,AK,Bi,hH1]
 .have r1:BI cx 144 [Pt h.length 0,.agg [I 1,I 0,.slnil,I 0,I 0,S [],.slnil,S [],S [],S [],.bool q,I 0,I 0]] H1 (I 1) H3:=by rw[Ab,Y6,ls];simp only[AB,Nat.reduceLeDiff,↓reduceIte,AK,Bi,t1.load,show Aw (.Bx 13) [.agg [I 1,I 0,.slnil,I 0,I 0,S [],.slnil,S [],S [],S [],.bool q,I 0,I 0]]=some (.sl 13 [[I 1,I 0,.slnil,I 0,I 0,S [],.slnil,S [],S [],S [],.bool q,I 0,I 0]]) from rfl,g2,s2,l3,show Aw (.len false) [.Cl (h.length+1) 0 1 13]=some (I 1) from rfl]
  have r2:BI cx 145 [Pt h.length 0,I 1] H3 (.ptr (some (h.length+1,0))) H3:=by rw[Ab,Y7,ly];simp only[AB,Bi,l3,show Aw (.int .sub) [I 1,I 1]=some (I 0) from rfl,e4]
  rw[Ab,i7,t52];simp only[AB,Nat.reduceLeDiff,↓reduceIte,AK,Bi,r1.call,r2.call,s3]
 .intro p hp;rw[Fi] at hp;subst hp;exact .inl ⟨rfl,rfl⟩
 .simp[Fo,GQ]
 .unfold Ar.inr;split
  .rename_i hh;have h1:=hh.1;have h2:=hh.2;simp[uP] at h2;have:k=1:=by omega
   subst this;rfl
  .rfl
theorem aHi(h:Ad)(q:Bool):∃h1 h2 h' bi G,BI cx 51 [] h (Pt h.length 0) h1/\BI cx 52 [Pt h.length 0,.bool q] h1 (I 1) h2/\BI cx 54 [Pt h.length 0,I 1] h2 (Pt bi 0) h'/\BX h' bi h.length .slnil .slnil .slnil G (C4 q)/\De h (λ_=>False) h' (own bi G):=by
 obtain⟨h1,h2,r1,r2,wa,eh⟩:=aMj h q;obtain⟨r,t,r3,K,V,rfl,hK,hV,_⟩:=aGf (x:=1) wa ((Nq q).rm.Wo) ((Nq q).rm.Wo.AY (No q).ok 1);have hx:(uP q).has 1:=⟨HT 1,HT 1⟩;have dr:(uP q).nd 1={kind:=1,Cy:=1,Cq:=q}:=(Np (q:=q) 1).trans (if_pos rfl);rw[if_pos hx,dr] at r3;have wt:PA (h2++t) _ _ _ _ _:=wa.CW λi hi=>Af (wa.lt i hi);refine⟨h1,h2,h2++t++[.cells (Jg h.length (C4 q) .slnil .slnil .slnil)],(h2++t).length,λi=>i∈Fo h.length (h.length+1) none [⟨{kind:=1,Cy:=1,Cq:=q},.slnil,.slnil,rfl⟩],r1,r2,?_,⟨by simp,.inr ⟨rfl,rfl⟩,.inr ⟨rfl,rfl⟩,?_,?_⟩,?_⟩;·rw[Ab,zG,t54];simp only[AB,Nat.reduceLeDiff,↓reduceIte,AK,Bi,r3.call,aaS];exact⟨λh=>absurd rfl h,λ_=>⟨λh=>absurd rfl h,λ_=>rfl⟩⟩
 .exact⟨_,_,_,wt.CW λi hi=>Af (wt.lt i hi),λi=>Iff.rfl⟩
 .intro hm;exact absurd (wt.lt _ hm) (Dd _)
 .have DV:h.length<=h2.length:=by rw[eh];simp
  refine⟨by simp;omega,λi hi _=>?_,λi hi=> .inr ?_⟩;·rw[AD,Af (by omega),eh,Af hi]
  .rcases hi with rfl|hi
   .simp;omega
   .simp[Fo,GQ] at hi;omega
theorem ct(sp:Int)(nm:Ap)(l:List AU)(q:Bool):DG (Ih sp nm l q)/\Sz (Ih sp nm l q) 100:=by
 refine⟨?_,?_⟩
 .obtain⟨TG,f,le1⟩:=Mw (nm:=Da) (at_:=[]) (p:=1) (No q) IQ;have bt:=TG.Jm (Nf (n:=((C4 q).FA Da [] 1).node) (p:=1) (b:=0) TG.ok) H6;have l2:Le ((C4 q).D8 Da [] 1 1).a (((C4 q).D8 Da [] 1 1).a.DZ ((C4 q).FA Da [] 1).node 1 0):=H6;have ho:((C4 q).D8 Da [] 1 1).AO=[]:=by unfold BS.D8;rw[if_pos IQ];rfl
  have wk:=bt.Q_ (i:=(C4 q).FA Da [] 1) (k:=0) ⟨l2.has _ f.has,by rw[l2.kind _ f.has];exact f.kind,by rw[l2.AZ _ f.has];exact f.AZ,by rw[l2.name _ f.has];exact f.name⟩ (by simp only[ho];simp);exact wk.of_eq rfl rfl (by unfold Ih;simp only[ho];rfl) rfl
 .have sz:=Nq q;have e:((C4 q).D8 Da [] 1 1).AO=[]/\((C4 q).D8 Da [] 1 1).A4=[]:=by unfold BS.D8;rw[if_pos IQ];exact⟨rfl,rfl⟩
  have r1:=H7 (m:=5000000*100+1) (nm:=Da) (l:=[]) (sp:=1) (p:=1) (sz.rm.le (by omega)) ⟨by decide,λa ha=>(nomatch ha)⟩;have r2:=r1.Jm (I0 (x:=((C4 q).FA Da [] 1).node) (p:=1) (bf:=0));have r3:=r2.vd (i:=(C4 q).FA Da [] 1) (l':=((C4 q).D8 Da [] 1 1).AO++[(C4 q).FA Da [] 1]) (by simp) (λj hj=>by simpa using hj) (Mz (by decide));exact⟨⟨r3.n,r3.at_,r3.data,r3.AO,r3.A4,r3.tm,r3.Dk,r3.Wn⟩,by unfold Ih;simp only[e.1];show 1+1200*100<=125000;decide,by unfold Ih;simp only[e.2];decide⟩
theorem V8(sp:Int)(nm:Ap)(l:List AU)(q:Bool):DG (KB sp nm l q)/\Sz (KB sp nm l q) 100:=by
 obtain⟨wk,sz3⟩:=ct sp nm l q;unfold KB;split;·have r:=sz3.rm;exact⟨wk.of_eq rfl rfl rfl rfl,⟨⟨r.n,r.at_,r.data,r.AO,r.A4,by simp,r.Dk,r.Wn⟩,sz3.AO,sz3.A4⟩⟩
 .exact⟨wk,sz3⟩
theorem r_(sp:Int)(nm:Ap)(l:List AU)(q f:Bool):DG (Sv sp nm l q f)/\Sz (Sv sp nm l q f) 100:=by
 obtain⟨uL,sa⟩:=V8 sp nm l q;have r5:BQ (KB sp nm l q).HN (5000000*100):=sa.rm.mode;unfold Sv;split;·exact⟨(Re uL).of_eq rfl rfl rfl rfl,⟨⟨r5.n,r5.at_,r5.data,r5.AO,r5.A4,r5.tm,r5.Dk,r5.Wn⟩,sa.AO,sa.A4⟩⟩
 .exact⟨Re uL,⟨r5,sa.AO,sa.A4⟩⟩
theorem BX.cu(w:BX h bi a o c t G b)(i:Item):∃h',Cv h 4 (Pt bi 10) (.agg i.row)=some h'/\BX h' bi a o c t G {b with ctx:=i}/\De h (own bi G) h' (own bi G):=by refine⟨h.set bi (.cells (Jg a {b with ctx:=i} o c t)),?_,⟨AN w.lt,w.o,w.t,w.w.CW λj hj=>Aj λe=>w.nb (by rw[e];exact hj),w.nb⟩,⟨by rw[Bj];exact Ac _,λj _ hn=>Aj λe=>hn (.inl e.symm),λ_ h=> .inl h⟩⟩;simp only[Cv,w.hb];rfl
theorem aMk(h:Ad)(sp:Int)(nm:Ap)(hv:Bw l av)(hl:DA l)(q f q':Bool):∃h1 h2 h' bi o t G,BI cx 51 [] h (Pt h.length 0) h1/\BI cx 52 [Pt h.length 0,.bool q] h1 (I 1) h2/\BI cx 53 [Pt h.length 0,I 1,.agg [I sp,.str nm,av,.bool q',.bool f]] h2 (Pt bi 0) h'/\BX h' bi h.length o .slnil t G (Sv sp nm l q f)/\De h (λ_=>False) h' (own bi G):=by
 obtain⟨h1,h2,h3,bi,G,r1,r2,r3,w,x⟩:=aHi h q;have hr:Nj Da .slnil [I 2,.str Da,ff,S [],ff,S [],ff,ff,.slnil,ff,S [],.int .i32 0]:=⟨I 2,ff,S [],ff,S [],ff,ff,ff,S [],.int .i32 0,rfl⟩;obtain⟨h4,G4,r4,w4,x4⟩:=br (m:=1000) w (No q) ((Nq q).rm.le (by omega)) hr (l:=[]) (.inr ⟨rfl,rfl⟩) ⟨by decide,λa ha=>(nomatch ha)⟩ (by decide) 1 1;obtain⟨uL,f4,le4⟩:=Mw (nm:=Da) (at_:=[]) (p:=1) (No q) IQ;have rm4:=H7 (m:=1000) (nm:=Da) (l:=[]) (sp:=1) (p:=1) ((Nq q).rm.le (by omega)) ⟨by decide,λa ha=>(nomatch ha)⟩;obtain⟨h5,G5,r5,w5,x5⟩:=dD (x:=((C4 q).FA Da [] 1).node) (p:=1) (bf:=0) w4 uL rm4;have ho:((C4 q).D8 Da [] 1 1).AO=[]:=by unfold BS.D8;rw[if_pos IQ];rfl
 obtain⟨u6,r6,hu6⟩:=f95 w5.sO (by simp only[ho];decide) ((C4 q).FA Da [] 1);have w6:=w5.Ia hu6;have w7:BX (put (put h5 bi 2 u6) bi 9 tt) bi h.length u6 .slnil .slnil G5 _:=w6.put (k:=9) (v:=tt) (b':={{{(C4 q).D8 Da [] 1 1 with a:=((C4 q).D8 Da [] 1 1).a.DZ ((C4 q).FA Da [] 1).node 1 0} with AO:=((C4 q).D8 Da [] 1 1).AO++[(C4 q).FA Da [] 1]} with Im:=true}) rfl rfl hu6 w6.t;have s7:Cv (put h5 bi 2 u6) 1 (Pt bi 9) tt=some (put (put h5 bi 2 u6) bi 9 tt):=w6.st (k:=9) (v:=tt) (v0:= .bool ((C4 q).D8 Da [] 1 1).Im) rfl rfl;have r8:BI cx 147 [I sp,.str nm,av] (put (put h5 bi 2 u6) bi 9 tt) (.bool (EH sp nm l)) (put (put h5 bi 2 u6) bi 9 tt):=f96 hv (λa ha=>by have:=(hl.2 a ha).2;have:AS=140737488355328:=rfl;omega) (by have:=hl.1;omega) sp nm _;obtain⟨h8,s8,w8,x8⟩:=w7.cu ⟨0,sp,nm,EH sp nm l⟩;have wz:BX h8 bi h.length u6 .slnil .slnil G5 (Ih sp nm l q):=w8;have wq:De h (λ_=>False) h8 (own bi G5):=((((x.trans x4).trans x5).trans Be).trans Be).trans x8;clear w8;have l10:=wz.sY;have aCy:(Ih sp nm l q).ctx=⟨0,sp,nm,EH sp nm l⟩:=rfl;obtain⟨aMl,sa⟩:=V8 sp nm l q;have r9:=jN (ws:=[A5]) CQ (by decide) (Ih sp nm l q).ctx h8;have key:∃h9 t9,BX h9 bi h.length u6 .slnil t9 G5 (KB sp nm l q)/\De h8 (own bi G5) h9 (own bi G5)/\(Bp [A5] (Ih sp nm l q).ctx=true->Cv h8 1 (Pt bi 6) (.sl 1 [[I 18]])=some h9)/\(Bp [A5] (Ih sp nm l q).ctx=false->h9=h8):=by
  by_cases hT:Bp [A5] (Ih sp nm l q).ctx=true;·have hu:Dg [18] (.sl 1 [[I 18]]):= .mk;refine⟨put h8 bi 6 (.sl 1 [[I 18]]),.sl 1 [[I 18]],?_,Be,λ_=>wz.st (k:=6) (v0:= .slnil) rfl rfl,λh=>absurd hT (by rw[h];decide)⟩;unfold KB;rw[if_pos hT];exact wz.jQ hu
  .refine⟨h8,.slnil,?_,.refl,λh=>absurd h hT,λ_=>rfl⟩;unfold KB;rw[if_neg hT];exact wz
 obtain⟨h9,t9,w9,x9,k1,k2⟩:=key;obtain⟨VQ,ZO,Ss,pW⟩:=qo w9 sa.rm;have em:Aw (.Bx 1) [I 18]=some (.sl 1 [[I 18]]):=rfl;have xx:De h (λ_=>False) VQ (own bi G5):=(wq.trans x9).trans pW;have hir:((C4 q).FA Da [] 1).row=[I ((C4 q).FA Da [] 1).node,I ((C4 q).FA Da [] 1).AZ,.str ((C4 q).FA Da [] 1).name,.bool ((C4 q).FA Da [] 1).NA]:=rfl;generalize(C4 q).FA Da [] 1=it at*;have cw:Cv (put (put h5 bi 2 u6) bi 9 tt) 4 (Pt bi 10) (.agg [I 0,I sp,.str nm,.bool (EH sp nm l)])=some h8:=s8;have sW:Aw (.Bx 1) [S aSo]=some (.sl 1 ([A5].map CH)):=dI;cases hT:Bp [A5] (Ih sp nm l q).ctx with
 |true=>
  rw[hT] at r9;have w_:=k1 hT;cases f with
  |true=>
   refine⟨h1,h2,put VQ bi 8 (I (-1)),bi,u6,t9,G5,r1,r2,?_,?_,xx.trans Be⟩;·rw[Ab,VE,t53];simp only[AB,Nat.reduceLeDiff,↓reduceIte,AK,Bi,EB,r3.call,r4.call,r5.call,r6.call,s7,r8.call,cw,l10,sW,r9.call,em,w_,ZO.call,Ss.st (k:=8) (v:=I (-1)) rfl rfl]
   .unfold Sv;rw[if_pos rfl];exact Ss.put rfl rfl Ss.o Ss.t
  |false=>refine⟨h1,h2,VQ,bi,u6,t9,G5,r1,r2,?_,Ss,xx⟩;rw[Ab,VE,t53];simp only[AB,Nat.reduceLeDiff,↓reduceIte,AK,Bi,EB,r3.call,r4.call,r5.call,r6.call,s7,r8.call,cw,l10,sW,r9.call,em,w_,ZO.call]
 |false=>
  rw[hT] at r9;have xa:=k2 hT;subst xa;cases f with
  |true=>
   refine⟨h1,h2,put VQ bi 8 (I (-1)),bi,u6,t9,G5,r1,r2,?_,?_,xx.trans Be⟩;·rw[Ab,VE,t53];simp only[AB,Nat.reduceLeDiff,↓reduceIte,AK,Bi,EB,r3.call,r4.call,r5.call,r6.call,s7,r8.call,cw,l10,sW,r9.call,em,ZO.call,Ss.st (k:=8) (v:=I (-1)) rfl rfl]
   .unfold Sv;rw[if_pos rfl];exact Ss.put rfl rfl Ss.o Ss.t
  |false=>refine⟨h1,h2,VQ,bi,u6,t9,G5,r1,r2,?_,Ss,xx⟩;rw[Ab,VE,t53];simp only[AB,Nat.reduceLeDiff,↓reduceIte,AK,Bi,EB,r3.call,r4.call,r5.call,r6.call,s7,r8.call,cw,l10,sW,r9.call,em,ZO.call]
theorem aMm(h:Ad)(s:Ek)(hv:Bw s.Ax av)(hl:DA s.Ax):∃h' bi a o c t G,BI cx 22 [.agg (Lj s av)] h (Pt bi 0) h'/\BX h' bi a o c t G s.b/\BO s.b.A4 c/\De h (λ_=>False) h' (own bi G):=by
 have gF:(Ih s.AZ s.name s.Ax s.Cq).A4=[]:=by unfold Ih;simp only;unfold BS.D8;rw[if_pos IQ];rfl
 cases hf:s.Im with
 |true=>
  obtain⟨h1,h2,h',bi,o,t,G,r1,r2,r3,w,x⟩:=aMk h s.AZ s.name hv hl s.Cq s.L0 s.Cq;refine⟨h',bi,h.length,o,.slnil,t,G,?_,by unfold Ek.b;rw[if_pos hf];exact w,?_,x⟩;·rw[Ab,i6,t22,Lj,hf];simp only[AB,r1.call,r2.call,r3.call]
  .have e:s.b.A4=[]:=by unfold Ek.b Sv KB;rw[if_pos hf];split<;>split<;>exact gF
   rw[e];exact⟨[],rfl,.inr ⟨rfl,rfl⟩⟩
 |false=>
  obtain⟨h1,h2,h',bi,G,r1,r2,r3,w,x⟩:=aHi h s.Cq;have e:s.b=C4 s.Cq:=by unfold Ek.b;rw[if_neg (by rw[hf];decide)]
  refine⟨h',bi,h.length,.slnil,.slnil,.slnil,G,?_,by rw[e];exact w,by rw[e];exact⟨[],rfl,.inr ⟨rfl,rfl⟩⟩,x⟩;rw[Ab,i6,t22,Lj,hf];simp only[AB,r1.call,r2.call,r3.call]
theorem Ek.ok(s:Ek):DG s.b/\Sz s.b 100:=by
 unfold Ek.b;split;·exact r_ _ _ _ _ _
 .have h:=Nq s.Cq;exact⟨No _,⟨h.rm.le (by omega),by have:=h.AO;omega,by have:=h.A4;omega⟩⟩
end
def LL(h:Ad)(lo:Nat)(v:Aa)(l:List Int):Prop:=(v= .slnil/\l=[])\/∃id,lo<=id/\v= .Cl id 0 l.length 1/\h[id]?=some (.cells (l.map (Aa.int .i64)))
def Ll(h:Ad)(lo:Nat)(v:Aa)(l:List Cc):Prop:=(v= .slnil/\l=[])\/∃id,∃fs:List B3,lo<=id/\v= .Cl id 0 fs.length 3/\h[id]?=some (.cells (fs.map B3.row).flatten)/\fs.map (·.c)=l
section
variable{h h':Ad}{lo lo':Nat}{v:Aa}
theorem LL.cells{l:List Int}(hv:LL h lo v l):v.cells=[v]:=by rcases hv with⟨rfl,_⟩|⟨id,_,rfl,_⟩<;>rfl
theorem Ll.cells{l:List Cc}(hv:Ll h lo v l):v.cells=[v]:=by rcases hv with⟨rfl,_⟩|⟨id,fs,_,rfl,_⟩<;>rfl
theorem LL.CW{l:List Int}(hv:LL h lo v l)(hf:∀i,lo<=i->i<h.length->h'[i]?=h[i]?):LL h' lo v l:=by
 rcases hv with hv|⟨id,h1,h2,h3⟩
 .exact .inl hv
 .exact .inr ⟨id,h1,h2,by rw[hf id h1 (Ah.1 h3).1];exact h3⟩
theorem Ll.CW{l:List Cc}(hv:Ll h lo v l)(hf:∀i,lo<=i->i<h.length->h'[i]?=h[i]?):Ll h' lo v l:=by
 rcases hv with hv|⟨id,fs,h1,h2,h3,h4⟩
 .exact .inl hv
 .exact .inr ⟨id,fs,h1,h2,by rw[hf id h1 (Ah.1 h3).1];exact h3,h4⟩
theorem Ll.low{l:List Cc}(hv:Ll h lo v l)(hl:lo'<=lo):Ll h lo' v l:=by
 rcases hv with hv|⟨id,fs,h1,h2⟩
 .exact .inl hv
 .exact .inr ⟨id,fs,by omega,h2⟩
theorem LL.Sm{l:List Int}(hv:LL h lo v l):Qh h v l:=by
 rcases hv with⟨rfl,rfl⟩|⟨id,_,rfl,hc⟩
 .exact⟨rfl,λk hk=>by simp at hk⟩
 .refine⟨rfl,λk hlt=>⟨Pt id k,by have:=EX (id:=id) (z:=1) (k:= .i64) hlt;rwa [Kj] at this,?_⟩⟩;simp only[A6,hc,Et];simp[hlt]
theorem xb{h u:Ad}{V:Aa}{L:List Int}(hV:LL (h++u) h.length V L)(hb:L.length<=1000000000)(x:Int):∃u' V',Fk (h++u) 1 8 V (.sl 1 [[I x]])=some (h++u',V')/\LL (h++u') h.length V' (L++[x]):=by
 have bF:AS=140737488355328:=rfl;rcases hV with⟨rfl,rfl⟩|⟨id,Ht,rfl,hc⟩
 .exact⟨u++[.cells [I x]],.Cl (h++u).length 0 1 1,by rw[<-AD];rfl,.inr ⟨(h++u).length,by simp,rfl,by simp⟩⟩
 .have hr:∀r∈L.map Cb,r.length=1:=K5 (f:=Cb) (λ_=>rfl) L;have JU:(h++u)[id]?=some (.cells (L.map Cb).flatten):=by rw[MC];exact hc
  have hg:=IG (b:=8) (Au:=L.map Cb) (r2:=[[I x]]) (v:= .sl 1 [[I x]]) hr (by decide) JU .mk (by simp) (by rw[Ai];simp;omega);rw[Ai] at hg;have e:(h++u).set id .CG++[Dc.cells (L.map Cb++[[I x]]).flatten]=h++(u.set (id-h.length) .CG++[.cells ((L++[x]).map (Aa.int .i64))]):=by rw[B2 _ _ Ht,AD,Wq,MC,BH];rfl
  rw[e] at hg;have Xv:(h++(u.set (id-h.length) Dc.CG++[.cells ((L++[x]).map (Aa.int .i64))]))=(h++u.set (id-h.length) Dc.CG)++[.cells ((L++[x]).map (Aa.int .i64))]:=by rw[AD]
  have ZK:(h++u.set (id-h.length) Dc.CG).length=(h++u).length:=by simp
  refine⟨_,_,hg,.inr ⟨(h++u).length,by simp,by simp,?_⟩⟩;rw[Xv,<-ZK,Bg (Ac _),DC];rfl
theorem aHk{h u:Ad}{V:Aa}{L:List Cc}(hV:Ll (h++u) h.length V L)(hb:L.length<=1000000000)(x:B3):∃u' V',Fk (h++u) 3 48 V (.sl 3 [x.row])=some (h++u',V')/\Ll (h++u') h.length V' (L++[x.c]):=by
 have bF:AS=140737488355328:=rfl;rcases hV with⟨rfl,rfl⟩|⟨id,fs,Ht,rfl,hc,rfl⟩
 .exact⟨u++[.cells (([x]:List B3).map B3.row).flatten],.Cl (h++u).length 0 1 3,by rw[<-AD];rfl,.inr ⟨(h++u).length,[x],by simp,rfl,by simp,rfl⟩⟩
 .rw[Ai] at hb;have hg:=IG (b:=48) (Au:=fs.map B3.row) (r2:=[x.row]) (v:= .sl 3 [x.row]) (Nc fs) (by decide) hc .mk (by simp) (by rw[Ai];simp;omega);rw[Ai] at hg;have e:(h++u).set id .CG++[.cells (fs.map B3.row++[x.row]).flatten]=h++(u.set (id-h.length) .CG++[.cells ((fs++[x]).map B3.row).flatten]):=by rw[B2 _ _ Ht,AD,BH];rfl
  rw[e] at hg;have Xv:(h++(u.set (id-h.length) Dc.CG++[.cells ((fs++[x]).map B3.row).flatten]))=(h++u.set (id-h.length) Dc.CG)++[.cells ((fs++[x]).map B3.row).flatten]:=by rw[AD]
  have ZK:(h++u.set (id-h.length) Dc.CG).length=(h++u).length:=by simp
  refine⟨_,_,hg,.inr ⟨(h++u).length,fs++[x],by simp,by simp,?_,by simp⟩⟩;rw[Xv,<-ZK,Bg (Ac _),DC];rfl
end
structure SS where
 mode:Int
 Q9:Int
 tm:List Int
 AO:List Int
 A4:List Cc
 head:Int
 L0:Int
 fs:Bool
 Eh:Bool
 WR:Ap
 skip:Bool
 sw:Int
 stop:Bool
def BS.Uo(b:BS):SS:=⟨b.mode,b.Q9,b.tm,b.AO.map Item.node,b.A4,b.head,b.L0,b.fs,b.Eh,b.WR,b.skip,b.sw,b.stop⟩
def Tc(s:SS)(t o c:Aa):List Aa:=[I s.mode,I s.Q9,t,o,c,I s.head,I s.L0,.bool s.fs,.bool s.Eh,.str s.WR,.bool s.skip,I s.sw,.bool s.stop]
structure Rq(h:Ad)(lo:Nat)(s:SS)(t o c:Aa):Prop where
 t:Dg s.tm t
 o:LL h lo o s.AO
 c:Ll h lo c s.A4
section
variable{h h':Ad}{bi a lo:Nat}{o c t:Aa}{G G' F:Nat->Prop}{b:BS}{x:Int}{m:Nat}
theorem Rq.CW{s:SS}(w:Rq h lo s t o c)(hf:∀i,lo<=i->i<h.length->h'[i]?=h[i]?):Rq h' lo s t o c:=⟨w.t,w.o.CW hf,w.c.CW hf⟩
theorem jZ{h:Ad}{n:Nat}(hn:n<=1000000000):Ul h 3 48 [I 0,S [],.slnil] (I (n:Int)) (I (n:Int))=some (h++[.cells (List.replicate n [I 0,S [],.slnil]).flatten],.Cl h.length 0 n 3):=by
 have hm:AS=140737488355328:=rfl;unfold Ul;simp only
 rw[if_pos ⟨by omega,by omega,by omega,rfl⟩];rfl
theorem aMn(w:BX h bi a o c t G b)(hc:BO b.A4 c)(rm:BQ b m):∃t' o' c' u,BI cx 26 [Pt bi 0] h (.agg (Tc b.Uo t' o' c')) (h++u)/\Rq (h++u) h.length b.Uo t' o' c':=by
 have bF:AS=140737488355328:=rfl;have ho:=rm.AO;have Ry:=rm.A4;have htm:=rm.tm;obtain⟨t',e0,FH⟩:=aGV w.t (by omega) h;have htc:t'.cells=[t']:=AM.cells FH;obtain⟨fs,Gn,hv⟩:=hc;have GG:b.A4.length=fs.length:=by rw[<-Gn,Ai]
 have lo1:=AM.Cp w.o;have Ik:Ev cx 26 [Pt bi 0] h λr h'=>∃t' o' c' u,r= .agg (Tc b.Uo t' o' c')/\h'=h++u/\Rq (h++u) h.length b.Uo t' o' c':=by
  unfold Ev;have ld:A6 h none (Pt bi 2)=some o:=w.ld 2;have k4:=w.l4;have k5:A6 h none (Pt bi 5)=some (I b.Q9):=w.ld 5;have k6:=w.l6;have k7:=w.l7;have k8:A6 h none (Pt bi 8)=some (I b.L0):=w.ld 8;have Pe:A6 h none (Pt bi 14)=some (.bool b.fs):=w.ld 14;have Qk:=w.uM;have Rp:A6 h none (Pt bi 16)=some (.str b.WR):=w.ld 16;have Su:A6 h none (Pt bi 17)=some (.bool b.skip):=w.ld 17;have TM:A6 h none (Pt bi 18)=some (I b.sw):=w.ld 18;have V6:A6 h none (Pt bi 19)=some (.bool b.stop):=w.ld 19;rw[yV,t26];simp only[AB,Nat.reduceLeDiff,↓reduceIte,AK,Bi,(Ho w).call,k4,k5,k6,e0.call,By,k7,k8,Pe,Qk,Rp,Su,TM,V6,htc,ld,lo1];refine Ei (i:=0) (λz:Aa×Nat=>[.agg [I b.mode,I b.Q9,t',z.1,.slnil,I b.head,I b.L0,.bool b.fs,.bool b.Eh,.str b.WR,.bool b.skip,I b.sw,.bool b.stop],I (z.2:Int)]) (λz h1=>z.2<=b.AO.length/\∃u,h1=h++u/\LL (h++u) h.length z.1 ((b.AO.take z.2).map Item.node)) (λz=>b.AO.length-z.2) (λz h1=>∃u,h1=h++u/\LL (h++u) h.length z.1 (b.AO.map Item.node)) (.slnil,0) rfl ⟨AR _,[],by simp,.inl ⟨rfl,by simp⟩⟩ ?_ ?_
  .rintro⟨V,n⟩ h1 ⟨hn,u,rfl,hV⟩;simp only at hn hV;have hVc:=hV.cells;rcases AT n b.AO.length with hlt|D1
   .have e1:=AM.Bz (k:= .i64) w.o hlt;rw[Item.row] at e1;obtain⟨u',V',g1,hV'⟩:=xb hV (by rw[Ai,Al];omega) b.AO[n].node;have hV'c:=hV'.cells;have em:Aw (.Bx 1) [I b.AO[n].node]=some (.sl 1 [[I b.AO[n].node]]):=rfl;simp only[AB,Nat.reduceLeDiff,↓reduceIte,Bi,show(n:Int)<(b.AO.length:Int) by omega,e1,em,g1,hV'c,BF (show n<9223372036854775807 by omega)];exact .next (V',n+1) rfl ⟨hlt,u',rfl,by rw[Av hlt,BH];exact hV'⟩ (by simp only;omega)
   .rw[Ay D1] at hV;simp only[AB,↓reduceIte,Bi,show¬(n:Int)<(b.AO.length:Int) by omega];exact .Hv (V,n) rfl ⟨u,rfl,hV⟩
  .rintro⟨O,n0⟩ h1 ⟨u,rfl,hO⟩;simp only at hO;have hOc:=hO.cells;have w1:=w.HA (u:=u);have l31:=w1.l3;have lc:=AM.Cp hv;simp only[AB,↓reduceIte,Bi,l31,lc];refine x_ (jZ (h:=h++u) (n:=fs.length) (by omega)) ?_;obtain⟨H0,hH0⟩:∃H0,H0=h++u:=⟨_,rfl⟩;rw[<-hH0] at hO⊢;have c0:(H0++[Dc.cells (List.replicate fs.length [I 0,S [],.slnil]).flatten])[H0.length]?=some (.cells (List.replicate fs.length [I 0,S [],.slnil]).flatten):=by simp
   have l32:A6 (H0++[Dc.cells (List.replicate fs.length [I 0,S [],.slnil]).flatten]) none (Pt bi 3)=some c:=by rw[hH0];exact(w1.HA).l3
   have qu:(List.replicate fs.length [I 0,S [],Aa.slnil]).flatten.length=fs.length*3:=by rw[Fb (z:=3) (by intro r hr;rw[(List.mem_replicate.1 hr).2];rfl),Iq]
   have cp:Ep (.copy 3) (H0++[Dc.cells (List.replicate fs.length [I 0,S [],.slnil]).flatten]) [.Cl H0.length 0 fs.length 3,c]=some (H0++[Dc.cells (fs.map B3.row).flatten],I (fs.length:Int)):=by
    have er:Ge (H0++[Dc.cells (List.replicate fs.length [I 0,S [],.slnil]).flatten]) 3 c=some (fs.map B3.row):=by
     rcases hv with rfl|⟨rfl,h0⟩
     .simp[Ge]
     .rw[h0];rfl
    simp only[Ep,kS,er,c0];rw[if_pos ⟨trivial,by simp,by rw[qu];omega⟩];have h1:(List.replicate fs.length [I 0,S [],Aa.slnil]).flatten.drop (0+(fs.map B3.row).length*3)=[]:=A3 (by rw[qu,Ai];omega);rw[h1,L5,BG,BC,Ai,B2 _ _ (Ac _),DC];rfl
   have lm:Aw (.len false) [.Cl H0.length 0 fs.length 3]=some (I (fs.length:Int)):=rfl;simp only[AB,↓reduceIte,Bi,l32,cp,lm];refine Ei (i:=2) (λn:Nat=>[I (n:Int)]) (λn h1=>n<=fs.length/\∃GX:List B3,h1=H0++[.cells (GX.map B3.row).flatten]/\GX.length=fs.length/\GX.map (·.c)=b.A4) (λn=>fs.length-n) (λn h1=>∃GX:List B3,h1=H0++[.cells (GX.map B3.row).flatten]/\GX.length=fs.length/\GX.map (·.c)=b.A4) 0 rfl ⟨AR _,fs,rfl,rfl,Gn⟩ ?_ ?_
   .rintro n h1 ⟨hn,GX,rfl,T3,tC⟩;rcases AT n fs.length with hlt|D1
    .have Qi:n<GX.length:=by omega
     have ef:GX[n].c=b.A4[n]'(by omega):=by simp only[<-tC,CX]
     have hal:=(rm.Dk GX[n].c (by rw[ef];exact AI _)).2.1;have e1:Aw (.Fj 3) [.Cl H0.length 0 fs.length 3,I (n:Int)]=some (Pt H0.length (n*3)):=EX hlt;have cc:(H0++[Dc.cells (GX.map B3.row).flatten])[H0.length]?=some (.cells (GX.map B3.row).flatten):=by simp
     have hg:(GX.map B3.row)[n]?=some GX[n].row:=by rw[Cr,Ae Qi];rfl
     have l2:A6 (H0++[Dc.cells (GX.map B3.row).flatten]) none (Pt H0.length (n*3+2))=some GX[n].v:=by simp only[A6,cc,Et];exact Ke (Nc GX) (by decide) hg
     obtain⟨av,r1,Xd⟩:=f45 (h:=H0++[Dc.cells (GX.map B3.row).flatten]) GX[n].ok (by omega);have aCz:av.cells=[av]:=AM.cells Xd;have s1:Cv (H0++[Dc.cells (GX.map B3.row).flatten]) 1 (Pt H0.length (n*3+2)) av=some (H0++[.cells ((GX.set n ⟨GX[n].c,av,Xd⟩).map B3.row).flatten]):=by have e:=MA (Au:=GX.map B3.row) (i:=n) (k:=2) (v:=av) (Nc GX) (by simpa using Qi) (by decide);simp only[Cv,cc,aCz,Br,NO];rw[if_pos (by rw[Fb (Nc GX),Ai];omega),e,B2 _ _ (Ac _),DC,Fh,CX];rfl
     simp only[AB,Bi,show(n:Int)<(fs.length:Int) by omega,e1,l2,r1.call,s1,BF (show n<9223372036854775807 by omega)];refine .next (n+1) rfl ⟨hlt,_,rfl,by rw[Bj];exact T3,?_⟩ (by omega)
     rw[Fh,tC];have ax:n<b.A4.length:=by omega
     show b.A4.set n GX[n].c=b.A4;rw[ef,RC]
    .simp only[AB,Bi,show¬(n:Int)<(fs.length:Int) by omega];exact .Hv n rfl ⟨GX,rfl,T3,tC⟩
   .rintro n h1 ⟨GX,rfl,T3,tC⟩;simp only[AB,↓reduceIte];refine⟨_,rfl,t',O,.Cl H0.length 0 fs.length 3,u++[.cells (GX.map B3.row).flatten],rfl,by rw[hH0,AD],FH,?_,?_⟩;·rw[<-AD,<-hH0];exact hO.CW λi _ hi=>Af hi
    .rw[<-AD,<-hH0];exact .inr ⟨H0.length,GX,by rw[hH0];simp,by rw[T3],by simp,tC⟩
 obtain⟨r,h',hr,t',o',c',u,rfl,rfl,hs⟩:=Ik.ret;exact⟨t',o',c',u,hr,hs⟩
end
def PB(h:Ad)(bi:Nat)(b:BS)(F:Nat->Prop):Prop:=∃a o c t G,BX h bi a o c t G b/\BO b.A4 c/\F=own bi G
structure Fin(b:BS)(j:Nat):Prop where
 ok:DG b
 sz:Sz b j
section
variable{h h':Ad}{bi wi:Nat}{b:BS}{F F2:Nat->Prop}{q:ZP}{av:Aa}{j:Nat}
theorem PB.lt(w:PB h bi b F){i:Nat}(hi:F i):i<h.length:=by
 obtain⟨a,o,c,t,G,w,_,rfl⟩:=w;rcases hi with rfl|hi
 .exact w.lt
 .exact w.w.lt hi
theorem PB.CW(w:PB h bi b F)(hf:∀i,F i->h'[i]?=h[i]?):PB h' bi b F:=by obtain⟨a,o,c,t,G,w,hc,rfl⟩:=w;exact⟨a,o,c,t,G,w.CW hf,hc,rfl⟩
theorem PB.HA(w:PB h bi b F){u:Ad}:PB (h++u) bi b F:=w.CW λi hi=>Af (w.lt hi)
theorem aMp(w:PB h bi b F)(f:Fin b (j+1))(hq:uO q)(hv:Bw q.Ax av):∃h' F',BI cx 30 [Pt bi 0,.agg (Kx q av)] h (.agg (TK b q).2.row) h'/\PB h' bi (TK b q).1 F'/\De h F h' F':=by obtain⟨a,o,c,t,G,w,hc,rfl⟩:=w;obtain⟨h',o',c',t',G',r,w',JU,x⟩:=aMi w hc f.ok f.sz hq hv;exact⟨h',_,r,⟨a,o',c',t',G',w',JU,rfl⟩,x⟩
theorem aMq(s:Ek)(hv:Bw s.Ax av)(hl:DA s.Ax)(h:Ad):∃h' bi F,BI cx 22 [.agg (Lj s av)] h (Pt bi 0) h'/\PB h' bi s.b F/\De h (λ_=>False) h' F:=by obtain⟨h',bi,a,o,c,t,G,r,w,hc,x⟩:=aMm h s hv hl;exact⟨h',bi,_,r,⟨a,o,c,t,G,w,hc,rfl⟩,x⟩
end
structure QO where
 q:ZP
 v:Aa
 ok:Bw q.Ax v
def QO.row(x:QO):List Aa:=Kx x.q x.v
theorem QO.Co{x:QO}:x.row.length=9:=rfl
theorem QO.Gx{x:QO}:x.row.take 9=x.row:=rfl
def X2(l:List QO)(v:Aa):Prop:=AM 9 (l.map QO.row) v
noncomputable def Lm:BS->List QO->BS
 |b,[]=>b
 |b,x::l=>Lm (TK b x.q).1 l
theorem V9:∀{l:List QO} {b:BS} {x:QO},Lm b (l++[x])=(TK (Lm b l) x.q).1
 |[],_,_=>rfl
 |y::l,b,x=>by rw[CB,Lm,V9,Lm]
def qK(k:Int)(nm:Ap)(l:List AU)(s:Ap)(r:Int)(x:Int):ZP:=⟨k,nm,l,0,x,false,s,r,0⟩
theorem aCA:DA []:=⟨by decide,λ_ h=>by cases h⟩
theorem aHl{k x r:Int}{nm s:Ap}(h1:nm.length<=1000)(h2:s.length<=1000)(h3: -2147483648<=r/\r<=2147483647){l:List AU}(h4:DA l):uO (qK k nm l s r x):=⟨h1,h4,h2,h3⟩
structure kC(h:Ad)(v:Aa)(fs:List B3):Prop where
 len:Aw (.len false) [v]=some (I (fs.length:Int))
 at_:∀k (hk:k<fs.length),∃id o,Aw (.Fj 3) [v,I (k:Int)]=some (Pt id o)/\A6 h none (Pt id o)=some (I fs[k].c.node)/\A6 h none (Pt id (o+1))=some (.str fs[k].c.name)/\A6 h none (Pt id (o+2))=some fs[k].v
def xc(h:Ad)(x:Eg)(r:List Aa):Prop:=∃K V,r=[I x.kind,I x.E6,K,I x.Cy,I x.AZ,.str x.name,V,.str x.data,.str x.pub,.str x.sys,.bool x.Cq,I x.cont,I x.DT]/\Qh h K x.AY/\LK h V x.Ax/\K.cells=[K]/\V.cells=[V]
def Wa(h:Ad)(v:Aa)(l:List Eg):Prop:=∃Au:List (List Aa),AM 13 Au v/\Au.length=l.length/\∀k (h1:k<Au.length) (h2:k<l.length),xc h l[k] Au[k]
def Wb(h:Ad)(lo:Nat)(v:Aa)(l:List Eg):Prop:=∃Au:List (List Aa),AM 13 Au v/\Au.length=l.length/\∀k (h1:k<Au.length) (h2:k<l.length),TF h lo l[k] Au[k]
section
variable{h h':Ad}{lo lo':Nat}{v v':Aa}
theorem Ll.at_{l:List Cc}(hv:Ll h lo v l):∃fs:List B3,fs.map (·.c)=l/\kC h v fs:=by
 rcases hv with⟨rfl,rfl⟩|⟨id,fs,_,rfl,hc,e⟩
 .exact⟨[],rfl,rfl,λk hk=>by simp at hk⟩
 .refine⟨fs,e,rfl,λk hk=>⟨id,k*3,EX hk,?_⟩⟩;have hg:(fs.map B3.row)[k]?=some fs[k].row:=by rw[Cr,Ae hk];rfl
  have ld:∀j,j<3->A6 h none (Pt id (k*3+j))=fs[k].row[j]?:=λj hj=>by simp only[A6,hc,Et];exact Ke (Nc fs) hj hg
  have l0:=ld 0 (by decide);rw[Bn] at l0;exact⟨l0,ld 1 (by decide),ld 2 (by decide)⟩
theorem Up.le{N N':Nat}(hu:Up N v)(hl:N'<=N):Up N' v:=λid k e=>Bt hl (hu id k e)
theorem TF.rd{x:Eg}{r:List Aa}(hr:TF h lo x r):xc h x r:=let⟨K,V,e,h1,h2,_⟩:=hr;⟨K,V,e,h1.Sm,h2.in_,AM.cells h1,h2.cells⟩
theorem TF.low{x:Eg}{r:List Aa}(hr:TF h lo x r)(hl:lo'<=lo):TF h lo' x r:=let⟨K,V,e,h1,h2,h3⟩:=hr;⟨K,V,e,h1,h2,h3.le hl⟩
theorem Wb.rd{l:List Eg}(hv:Wb h lo v l):Wa h v l:=let⟨Au,h1,h2,h3⟩:=hv;⟨Au,h1,h2,λk a b=>(h3 k a b).rd⟩
theorem f18{l:List Int}(hv:Qh h v l)(Du:Qh h v' l)(hb:l.length<=1000000000):BI cx 28 [v,v'] h tt h:=by
 rw[Ab,yW,t28];simp only[AB,Bi,hv.len,Du.len,ne_eq,Cn];refine Bb (λn:Nat=>[ff,I (n:Int)]) (λn h1=>n<=l.length/\h1=h) (λn=>l.length-n) 0 rfl ⟨AR _,rfl⟩ ?_;rintro n h1 ⟨hn,rfl⟩;rcases AT n l.length with hlt|D1
 .obtain⟨p,a1,a2⟩:=hv.at_ n hlt;obtain⟨p',b1,b2⟩:=Du.at_ n hlt;simp only[AB,Bi,hv.len,show(n:Int)<(l.length:Int) by omega,a1,a2,b1,b2,ne_eq,Cn,BF (show n<9223372036854775807 by omega)];exact AF.next (n+1) rfl ⟨hlt,rfl⟩ (by omega)
 .simp only[AB,Bi,hv.len,show¬(n:Int)<(l.length:Int) by omega]
theorem aHm(y:AU):Aw (.geq true [.i,.s,.s]) [.agg y.row,.agg y.row]=some (.bool false):=by rw[M6];simp[AU.row,Ds,Ju]
theorem aHn{l:List AU}(hv:LK h v l)(Du:LK h v' l)(hb:l.length<=1000000000):BI cx 292 [v,v'] h tt h:=by
 rw[Ab,pv,aFP];simp only[AB,Bi,hv.len,Du.len,ne_eq,Cn];refine Bb (λn:Nat=>[ff,I (n:Int)]) (λn h1=>n<=l.length/\h1=h) (λn=>l.length-n) 0 rfl ⟨AR _,rfl⟩ ?_;rintro n h1 ⟨hn,rfl⟩;rcases AT n l.length with hlt|D1
 .obtain⟨p,a1,a2⟩:=hv.at_ n hlt;obtain⟨p',b1,b2⟩:=Du.at_ n hlt;simp only[AB,Bi,hv.len,show(n:Int)<(l.length:Int) by omega,a1,a2,b1,b2,aHm,BF (show n<9223372036854775807 by omega)];exact AF.next (n+1) rfl ⟨hlt,rfl⟩ (by omega)
 .simp only[AB,Bi,hv.len,show¬(n:Int)<(l.length:Int) by omega]
theorem f87{fs sc:List B3}(hv:kC h v fs)(Du:kC h v' sc)(he:fs.map (·.c)=sc.map (·.c))(hb:fs.length<=1000000000)(ha:∀e∈fs,e.c.Ax.length<=1000000000):BI cx 103 [v,v'] h tt h:=by
 have hl:sc.length=fs.length:=by have:=Cd List.length he;simpa using this.symm
 have l1:=hv.len;have l2:=Du.len;rw[hl] at l2;rw[Ab,jv,aEL];simp only[AB,Bi,l1,l2,ne_eq,Cn];refine Bb (λn:Nat=>[ff,I (n:Int)]) (λn h1=>n<=fs.length/\h1=h) (λn=>fs.length-n) 0 rfl ⟨AR _,rfl⟩ ?_;rintro n h1 ⟨hn,rfl⟩;rcases AT n fs.length with hlt|D1
 .have Rg:n<sc.length:=by omega
  have ec:sc[n].c=fs[n].c:=by have:=Cd (λl=>l[n]?) he;simp only[Cr,Ae hlt,Ae Rg,BR,BA] at this;exact this.symm
  obtain⟨id,o,a1,a2,a3,a4⟩:=hv.at_ n hlt;obtain⟨E8,o',b1,b2,b3,b4⟩:=Du.at_ n Rg;rw[ec] at b2 b3;have Xd:Bw fs[n].c.Ax fs[n].v:=fs[n].ok;have aHo:Bw fs[n].c.Ax sc[n].v:=by rw[<-ec];exact sc[n].ok
  have Wm:=ha _ (AI hlt);have m1:=AM.Cp Xd;have m2:=AM.Cp aHo;generalize fs[n].v=av at*;generalize sc[n].v=jX at*;generalize fs[n].c.Ax=al at*;simp only[AB,Bi,l1,show(n:Int)<(fs.length:Int) by omega,a1,a2,a3,a4,b1,b2,b3,b4,ne_eq,Cn,m1,m2];refine Bb (λj:Nat=>[ff,I (j:Int)]) (λj h2=>j<=al.length/\h2=h1) (λj=>al.length-j) 0 rfl ⟨AR _,rfl⟩ ?_;rintro j h2 ⟨hj,rfl⟩;rcases AT j al.length with fP|hjg
  .have e1:=AM.Bz (k:= .i64) Xd fP;have e2:=AM.Bz (k:= .i64) aHo fP;have yo:(AU.row al[j]).length=3:=rfl;have ht3:(AU.row al[j]).take 3=AU.row al[j]:=rfl;simp only[AB,Bi,a1,a4,b1,b4,m1,show(j:Int)<(al.length:Int) by omega,e1,e2,yo,ht3,Ac,aHm,BF (show j<9223372036854775807 by omega)];exact AF.next (j+1) rfl ⟨fP,rfl⟩ (by omega)
  .simp only[AB,Bi,a1,a4,m1,show¬(j:Int)<(al.length:Int) by omega,BF (show n<9223372036854775807 by omega)];exact AF.next (n+1) rfl ⟨hlt,rfl⟩ (by omega)
 .simp only[AB,Bi,l1,show¬(n:Int)<(fs.length:Int) by omega]
theorem f22{s:SS}{t o c t' o' c':Aa}(w:Rq h lo s t o c)(w':Rq h lo' s t' o' c')(b1:s.tm.length<=1000000000)(b2:s.AO.length<=1000000000)(b3:s.A4.length<=1000000000)(b4:∀e∈s.A4,e.Ax.length<=1000000000):BI cx 32 [.agg (Tc s t o c),.agg (Tc s t' o' c')] h tt h:=by
 obtain⟨fs,e1,he⟩:=w.c.at_;obtain⟨sc,e1',Pb⟩:=w'.c.at_;have r1:=f18 w.o.Sm w'.o.Sm b2;have r2:=f87 he Pb (e1.trans e1'.symm) (by rw[<-e1,Ai] at b3;exact b3) (λe hm=>b4 e.c (by rw[<-e1];exact aIq hm));have tc:t.cells=[t]:=AM.cells w.t;have tc':t'.cells=[t']:=AM.cells w'.t;have oc:=w.o.cells;have oc':=w'.o.cells;have cc:=w.c.cells;have cc':=w'.c.cells;have l1:=AM.Cp w.t;have l2:=AM.Cp w'.t;rw[Ab,aAb,t32,Tc,Tc];simp only[AB,Bi,l1,l2,ne_eq,Cn,r1.call,r2.call];refine Bb (λn:Nat=>[ff,I (n:Int)]) (λn h1=>n<=s.tm.length/\h1=h) (λn=>s.tm.length-n) 0 rfl ⟨AR _,rfl⟩ ?_;rintro n h1 ⟨hn,rfl⟩;rcases AT n s.tm.length with hlt|D1
 .have a1:=AM.Bz (k:= .i64) w.t hlt;have a2:=AM.Bz (k:= .i64) w'.t hlt;rw[Cb] at a1 a2;simp only[AB,Bi,l1,show(n:Int)<(s.tm.length:Int) by omega,a1,a2,ne_eq,Cn,BF (show n<9223372036854775807 by omega)];exact AF.next (n+1) rfl ⟨hlt,rfl⟩ (by omega)
 .simp only[AB,Bi,l1,show¬(n:Int)<(s.tm.length:Int) by omega,Cn,D4]
theorem aMs{x:Eg}{r r':List Aa}(hr:xc h x r)(Fu:xc h x r')(hb:x.Ax.length<=1000000000):BI cx 267 [.agg r,.agg r'] h tt h:=by obtain⟨K,V,rfl,k1,k2,k3,k4⟩:=hr;obtain⟨K',V',rfl,w_,xa,k3',k4'⟩:=Fu;have r1:=aHn k2 xa hb;rw[Ab,pd,aFI];simp only[AB,Bi,Cn,r1.call,D4]
theorem aMt{x:Eg}{r r':List Aa}(hr:xc h x r)(Fu:xc h x r')(hb:x.Ax.length<=1000000000)(hk:x.AY.length<=1000000000):BI cx 203 [.agg r,.agg r'] h tt h:=by have r1:=aMs hr Fu hb;obtain⟨K,V,rfl,k1,k2,k3,k4⟩:=hr;obtain⟨K',V',rfl,w_,xa,k3',k4'⟩:=Fu;have r2:=f18 k1 w_ hk;rw[Ab,nr,aFq];simp only[AB,Cn,r1.call,r2.call,D4]
theorem f90{l:List Eg}(hv:Wa h v l)(Du:Wa h v' l)(hb:l.length<=1000000000)(ha:∀x∈l,x.Ax.length<=1000000000/\x.AY.length<=1000000000):BI cx 106 [v,v'] h tt h:=by
 obtain⟨Au,s1,e1,n1⟩:=hv;obtain⟨rows',s1',e1',n1'⟩:=Du;have l1:=s1.len;have l2:=s1'.len;rw[e1] at l1;rw[e1'] at l2;rw[Ab,jy,aEO];simp only[AB,Bi,l1,l2,ne_eq,Cn];refine Bb (λn:Nat=>[ff,I (n:Int)]) (λn h1=>n<=l.length/\h1=h) (λn=>l.length-n) 0 rfl ⟨AR _,rfl⟩ ?_;rintro n h1 ⟨hn,rfl⟩;rcases AT n l.length with hlt|D1
 .have a1:=s1.Fj (k:= .i64) (show n<Au.length by omega);have a2:=s1'.Fj (k:= .i64) (show n<rows'.length by omega);have q1:=n1 n (by omega) hlt;have q2:=n1' n (by omega) hlt;have hm:=ha _ (AI hlt);have r1:=aMt q1 q2 hm.1 hm.2;obtain⟨K,V,er,_⟩:=q1;obtain⟨K',V',er',_⟩:=q2;rw[er] at a1 r1;rw[er'] at a2 r1;simp only[AB,Nat.reduceLeDiff,↓reduceIte,Bi,l1,show(n:Int)<(l.length:Int) by omega,a1,a2,r1.call,BF (show n<9223372036854775807 by omega)];exact AF.next (n+1) rfl ⟨hlt,rfl⟩ (by omega)
 .simp only[AB,↓reduceIte,Bi,l1,show¬(n:Int)<(l.length:Int) by omega]
end
theorem kD{A:Ar}{k:Nat}(hk:k<A.n.length):A.has ((k:Int)+1)/\A.nd ((k:Int)+1)=A.n[k]:=by
 have h1:A.has ((k:Int)+1):=by unfold Ar.has;omega
 refine⟨h1,?_⟩;unfold Ar.nd;rw[if_pos h1,AE,show((k:Int)+1).toNat-1=k by omega,Ae hk];rfl
section
variable{h h':Ad}{a n:Nat}{m:Option Nat}{ps:List PN}{A:Ar}{x:Int}
theorem aMu(w:PA h a n m ps A)(lm:L9 A)(hk:∀x,(A.nd x).AY.length<=1000000000)(hb:A.n.length<=900000000):∃v u,BI cx 107 [Pt a 0] h v (h++u)/\Wb (h++u) h.length v A.n:=by
 have bF:AS=140737488355328:=rfl;have ZH:A.n.length=ps.length:=by rw[w.e,Ai]
 have Ik:Ev cx 107 [Pt a 0] h λr h'=>∃u,h'=h++u/\Wb (h++u) h.length r A.n:=by
  unfold Ev;rw[jz,aEP];simp only[AB,Bi,w.nodes,show Aw (.len false) [.Cl n 0 ps.length 13]=some (I (ps.length:Int)) from rfl];refine Bb (λz:Aa×Nat=>[z.1,I (z.2:Int)]) (λz h1=>z.2<=ps.length/\∃u,h1=h++u/\Wb (h++u) h.length z.1 (A.n.take z.2)) (λz=>ps.length-z.2) (.slnil,0) rfl ⟨AR _,[],by simp,[],.nil,by simp,λk h1 h2=>by simp at h1⟩ ?_;rintro⟨V,k⟩ h1 ⟨Wt,u,rfl,hV⟩;simp only at Wt hV;have w1:PA (h++u) a n m ps A:=w.CW λi hi=>Af (w.lt i hi);rcases AT k ps.length with hlt|D1
  .obtain⟨hx,ex⟩:=kD (A:=A) (k:=k) (by omega);obtain⟨r,t,r1,hr⟩:=vo w1 lm hx (hk _);have ea:Aw (.Fj 13) [.Cl n 0 ps.length 13,I (k:Int)]=some (.ptr (some (n,nP n ((k:Int)+1)))):=by have:=EX (k:= .i64) (id:=n) (z:=13) hlt;rw[this];unfold nP;congr 4
   obtain⟨Au,s1,e1,n1⟩:=hV;rw[Al,Cm (by omega)] at e1;obtain⟨K,W,er,KX⟩:=hr;have em:Aw (.Bx 13) [.agg r]=some (.sl 13 [r]):=K4 (a:= .agg r) (by rw[er];rfl) (by decide);have ap:=AM.xT (b:=168) (row:=r) s1 (by omega);simp only[AB,Bi,show(k:Int)<(ps.length:Int) by omega,w1.nodes,ea,r1.call,em,ap,BF (show k<9223372036854775807 by omega)];refine AF.next (_,k+1) rfl ⟨hlt,u++t,by rw[AD],Au++[r],.mk,by rw[As,Al,e1];simp;omega,λj h1 h2=>?_⟩ (by simp only;omega);rw[<-AD];rw[List.getElem_take];by_cases hj:j<Au.length;·rw[Jj hj];have:=n1 j hj (by rw[Al];omega);rw[List.getElem_take] at this;exact this.HA
   .have ej:j=k:=by simp at h1;omega
    subst ej;rw[List.getElem_append_right (by omega)];simp only[e1,DC,List.getElem_cons_zero];rw[<-ex];exact TF.low (lo:=(h++u).length) ⟨K,W,er,KX⟩ (by simp)
  .rw[Ay (by omega)] at hV;simp only[AB,Bi,show¬(k:Int)<(ps.length:Int) by omega];exact⟨_,rfl,u,rfl,hV⟩
 obtain⟨r,h',hr,u,rfl,hV⟩:=Ik.ret;exact⟨r,u,hr,hV⟩
end
structure RN where
 x:Eg
 kv:Aa
 av:Aa
 okk:Dg x.AY kv
 oka:Bw x.Ax av
def RN.row(p:RN):List Aa:=[I p.x.kind,I p.x.E6,p.kv,I p.x.Cy,I p.x.AZ,.str p.x.name,p.av,.str p.x.data,.str p.x.pub,.str p.x.sys,.bool p.x.Cq,I p.x.cont,I p.x.DT]
def RN.z:RN:=⟨{},.slnil,.slnil,.inr ⟨rfl,rfl⟩,.inr ⟨rfl,rfl⟩⟩
theorem cy(l:List RN):∀r∈l.map RN.row,r.length=13:=K5 (f:=RN.row) (λ_=>rfl) l
structure RA(h:Ad)(a n i:Nat)(ps:List RN)(A:Ar):Prop where
 e:A.n=ps.map RN.x
 il:A.i.length=A.n.length
 ha:h[a]?=some (.cells [.Cl n 0 (ps.length+1) 13,.Cl i 0 (ps.length+1) 1])
 hn:h[n]?=some (.cells ((RN.z::ps).map RN.row).flatten)
 hi:h[i]?=some (.cells ((0::A.i).map (Aa.int .i64)))
 d:a≠n/\a≠i/\n≠i
def IA(a n i:Nat):Nat->Prop:=λj=>j=a\/j=n\/j=i
def RW(h:Ad)(G:Nat->Prop)(a:Nat)(A:Ar):Prop:=∃n i ps,RA h a n i ps A/\G=IA a n i
def pR(ps:List RN)(x:Int):RN:=(RN.z::ps).getD x.toNat RN.z
def nR(x:Int):Nat:=x.toNat*13
section
variable{h h':Ad}{a n i:Nat}{ps:List RN}{A:Ar}{x:Int}{G:Nat->Prop}
theorem RA.CW(w:RA h a n i ps A)(hf:∀j,IA a n i j->h'[j]?=h[j]?):RA h' a n i ps A:=
 ⟨w.e,w.il,by rw[hf a (.inl rfl)];exact w.ha,by rw[hf n (.inr (.inl rfl))];exact w.hn,by rw[hf i (.inr (.inr rfl))];exact w.hi,w.d⟩
theorem RA.lt(w:RA h a n i ps A){j:Nat}(hj:IA a n i j):j<h.length:=by
 rcases hj with rfl|rfl|rfl
 .exact(Ah.1 w.ha).1
 .exact(Ah.1 w.hn).1
 .exact(Ah.1 w.hi).1
theorem RW.CW(w:RW h G a A)(hf:∀j,G j->h'[j]?=h[j]?):RW h' G a A:=by obtain⟨n,i,ps,w,rfl⟩:=w;exact⟨n,i,ps,w.CW hf,rfl⟩
theorem RW.lt(w:RW h G a A){j:Nat}(hj:G j):j<h.length:=by obtain⟨n,i,ps,w,rfl⟩:=w;exact w.lt hj
theorem RA.len(w:RA h a n i ps A):A.n.length=ps.length:=by rw[w.e,Ai]
theorem RA.nodes(w:RA h a n i ps A):A6 h none (Pt a 0)=some (.Cl n 0 (ps.length+1) 13):=by simp only[A6,w.ha];rfl
theorem RA.VS(w:RA h a n i ps A):A6 h none (Pt a 1)=some (.Cl i 0 (ps.length+1) 1):=by simp only[A6,w.ha];rfl
theorem RA.at(w:RA h a n i ps A)(hx:A.has x):x.toNat<ps.length+1/\(x.toNat:Int)=x:=by have h1:=hx.1;have h2:=hx.2;rw[w.len] at h2;omega
theorem RA.pn(w:RA h a n i ps A)(hx:A.has x):(RN.z::ps)[x.toNat]?=some (pR ps x)/\(pR ps x).x=A.nd x:=by
 have h1:=(w.at hx).1;have h2:=hx.1;have hl:x.toNat<(RN.z::ps).length:=by simpa using h1
 refine⟨by unfold pR;rw[AE,Ae hl];rfl,?_⟩;unfold Ar.nd pR;rw[if_pos hx,w.e];obtain⟨k,hk⟩:∃k,x.toNat=k+1:=⟨x.toNat-1,by omega⟩;rw[hk,List.getD_cons_succ,GF,AE,AE,Cr];have:k<ps.length:=by omega
 rw[Ae this];rfl
theorem RA.BY(w:RA h a n i ps A)(hx:A.has x){k:Nat}(hk:k<13):A6 h none (Pt n (nR x+k))=(pR ps x).row[k]?:=by unfold nR;simp only[A6,w.hn,Et];exact Ke (cy _) hk (by rw[Cr,(w.pn hx).1];rfl)
theorem RA.addr(w:RA h a n i ps A)(hx:A.has x):Aw (.Fj 13) [.Cl n 0 (ps.length+1) 13,I x]=some (Pt n (nR x)):=by obtain⟨h1,h2⟩:=w.at hx;have:=EX (k:= .i64) (id:=n) (z:=13) h1;rwa [h2] at this
theorem RA.f0(w:RA h a n i ps A)(hx:A.has x):A6 h none (Pt n (nR x))=some (I (A.nd x).kind):=by have:=w.BY hx (k:=0) (by decide);rw[Bn] at this;rw[this,<-(w.pn hx).2];rfl
theorem RA.f1(w:RA h a n i ps A)(hx:A.has x):A6 h none (Pt n (nR x+1))=some (I (A.nd x).E6):=by rw[w.BY hx (by decide),<-(w.pn hx).2];rfl
theorem RA.f2(w:RA h a n i ps A)(hx:A.has x):A6 h none (Pt n (nR x+2))=some (pR ps x).kv:=by rw[w.BY hx (by decide)];rfl
theorem RA.f3(w:RA h a n i ps A)(hx:A.has x):A6 h none (Pt n (nR x+3))=some (I (A.nd x).Cy):=by rw[w.BY hx (by decide),<-(w.pn hx).2];rfl
theorem RA.f4(w:RA h a n i ps A)(hx:A.has x):A6 h none (Pt n (nR x+4))=some (I (A.nd x).AZ):=by rw[w.BY hx (by decide),<-(w.pn hx).2];rfl
theorem RA.f5(w:RA h a n i ps A)(hx:A.has x):A6 h none (Pt n (nR x+5))=some (.str (A.nd x).name):=by rw[w.BY hx (by decide),<-(w.pn hx).2];rfl
theorem RA.f6(w:RA h a n i ps A)(hx:A.has x):A6 h none (Pt n (nR x+6))=some (pR ps x).av:=by rw[w.BY hx (by decide)];rfl
theorem RA.f7(w:RA h a n i ps A)(hx:A.has x):A6 h none (Pt n (nR x+7))=some (.str (A.nd x).data):=by rw[w.BY hx (by decide),<-(w.pn hx).2];rfl
theorem RA.xd(w:RA h a n i ps A)(hx:A.has x):A6 h none (Pt n (nR x+11))=some (I (A.nd x).cont):=by rw[w.BY hx (by decide),<-(w.pn hx).2];rfl
theorem RA.f12(w:RA h a n i ps A)(hx:A.has x):A6 h none (Pt n (nR x+12))=some (I (A.nd x).DT):=by rw[w.BY hx (by decide),<-(w.pn hx).2];rfl
theorem RA.LF(w:RA h a n i ps A)(hx:A.has x):Dg (A.nd x).AY (pR ps x).kv:=by rw[<-(w.pn hx).2];exact(pR ps x).okk
theorem RA.ba(w:RA h a n i ps A)(hx:A.has x):Bw (A.nd x).Ax (pR ps x).av:=by rw[<-(w.pn hx).2];exact(pR ps x).oka
theorem RA.wr(w:RA h a n i ps A)(hx:A.has x){k:Nat}(hk:k<13){v:Aa}(hv:v.cells=[v]){p:RN}(hp:p.row=(pR ps x).row.set k v):
  ∃h',Cv h 1 (Pt n (nR x+k)) v=some h'/\RA h' a n i (ps.set (x.toNat-1) p) (A.set x p.x)/\De h (IA a n i) h' (IA a n i)/\h'.length=h.length:=by
 obtain⟨hlt,hxe⟩:=w.at hx;have h1:=hx.1;have hg:=(w.pn hx).1;have Rg:x.toNat<(RN.z::ps).length:=by simpa using hlt
 rw[Ae Rg,BA] at hg;have e:=MA (Au:=(RN.z::ps).map RN.row) (i:=x.toNat) (k:=k) (v:=v) (cy _) (by simpa using hlt) hk;rw[CX,hg,<-hp,<-Fh] at e;have es:(RN.z::ps).set x.toNat p=RN.z::ps.set (x.toNat-1) p:=by obtain⟨j,hj⟩:∃j,x.toNat=j+1:=⟨x.toNat-1,by omega⟩;rw[hj,List.set_cons_succ,GF]
 rw[es] at e;have NF:=w.lt (.inr (.inl rfl));refine⟨h.set n (.cells ((RN.z::ps.set (x.toNat-1) p).map RN.row).flatten),?_,⟨?_,?_,?_,AN NF,?_,w.d⟩,⟨by rw[Bj];exact Ac _,λj _ hn=>Aj λe=>hn (.inr (.inl e.symm)),λj hj=> .inl hj⟩,Bj⟩;·unfold nR;simp only[Cv,w.hn,hv,Br,NO];rw[if_pos (by rw[Fb (cy _),Ai];have:=Ez 13 (show x.toNat+1<=(RN.z::ps).length from Rg);omega),e]
 .unfold Ar.set;simp only;rw[if_pos hx,w.e,Fh]
 .unfold Ar.set;simp only;rw[if_pos hx,Bj];exact w.il
 .rw[Aj (DQ w.d.1),Bj];exact w.ha
 .rw[Aj w.d.2.2];exact w.hi
theorem GY(w:RA h a n i ps A):BI cx 220 [Pt a 0,I x] h (.bool (decide (A.has x))) h:=by
 have hl:=w.len;rw[Ab,ob,aFu];by_cases h0:0<x
 .have e:decide (A.has x)=decide (x<((ps.length+1:Nat):Int)):=by rw[D0];unfold Ar.has;omega
  rw[e];simp only[AB,Bi,h0,w.nodes,show Aw (.len false) [.Cl n 0 (ps.length+1) 13]=some (I ((ps.length+1:Nat):Int)) from rfl]
 .have e:decide (A.has x)=false:=by rw[AA];unfold Ar.has;omega
  rw[e];simp only[AB,Bi,h0]
theorem aHp(w:RA h a n i ps A):BI cx 143 [Pt a 0,I x] h (I (A.nd x).E6) h:=by
 rw[Ab,lq,aE1];by_cases hx:A.has x;·simp only[AB,Bi,(GY (x:=x) w).call,Az hx,w.nodes,w.addr hx,w.f1 hx]
 .rw[GI hx];simp only[AB,Bi,(GY (x:=x) w).call,AA hx]
theorem cz(w:RA h a n i ps A)(hb:(A.nd x).AY.length<=1000000000):∃v,BI cx 132 [Pt a 0,I x] h v h/\Dg (A.nd x).AY v:=by
 have hm:AS=140737488355328:=rfl;by_cases hx:A.has x;·obtain⟨u,e,hu⟩:=AM.Gj (b:=8) (w.LF hx) (by omega);refine⟨u,?_,hu⟩;rw[Ab,mV,aAQ];simp only[AB,Bi,(GY (x:=x) w).call,Az hx,w.nodes,w.addr hx,w.f2 hx,e]
 .refine⟨.slnil,?_,by rw[GI hx];exact .inr ⟨rfl,rfl⟩⟩;rw[Ab,mV,aAQ];simp only[AB,Bi,(GY (x:=x) w).call,AA hx]
theorem aHq(w:RA h a n i ps A)(hx:A.has x):BI cx 296 [Pt a 0,I x] h (I (A.up x)) h:=by
 rw[Ab,px,aFQ];by_cases hp:(A.nd x).E6=0
 .have e:A.up x=(A.nd x).DT:=by unfold Ar.up;rw[if_neg (by simpa using hp)]
  simp only[AB,Bi,w.nodes,w.addr hx,w.f1 hx,hp,w.f12 hx,e,ne_eq,Cn]
 .have e:A.up x=(A.nd x).E6:=by unfold Ar.up;rw[if_pos (by simpa using hp)]
  simp only[AB,Bi,w.nodes,w.addr hx,w.f1 hx,hp,e,ne_eq]
end
theorem aHr{A:Ar}{e x:Int}(ok:Eu A e)(hx:A.has x)(h0:A.up x≠0):A.has (A.up x):=by
 unfold Ar.up at h0⊢;split at h0;·rename_i h;rw[if_pos h];exact(ok.E6 x hx h).1
 .rename_i h;rw[if_neg h];exact(ok.DT x hx h0).1
theorem tL{A:Ar}{t x:Int}(hne:x≠t):Reach A t x↔A.up x≠0/\Reach A t (A.up x):=by
 constructor
 .intro h;cases h with
  |refl=>exact absurd rfl hne
  |step h1 h2=>exact⟨h1,h2⟩
 .exact λh=> .step h.1 h.2
section
variable{h h':Ad}{a n i:Nat}{ps:List RN}{A:Ar}{x:Int}{G:Nat->Prop}
open Classical in
theorem aHs{up e:Int}(w:RA h a n i ps A)(ok:Eu A e)(hu:A.has up)(hx:A.has x):BI cx 272 [Pt a 0,I up,I x] h (.bool (decide (Reach A up x))) h:=by
 obtain⟨r,hr⟩:=ok.YR;have hu0:up≠0:=by have:=hu.1;omega
 rw[Ab,ph,aFK];simp only[AB,Bi,(GY (x:=up) w).call,(GY (x:=x) w).call,Az hu,Az hx];refine Bb (λc:Int=>[I c,ff]) (λc h1=>(c=0\/A.has c)/\(Reach A up x↔c≠0/\Reach A up c)/\h1=h) (λc=>if c=0 then 0 else r c+1) x rfl ⟨.inr hx,⟨λh=>⟨by have:=hx.1;omega,h⟩,λh=>h.2⟩,rfl⟩ ?_;rintro c h1 ⟨hc,he,rfl⟩;by_cases h0:c=0;·have e:decide (Reach A up x)=false:=AA (λhh=>(he.1 hh).1 h0);simp only[AB,Bi,h0,ne_eq,e]
 .have hc:=hc.resolve_left h0;by_cases hcu:c=up;·have e:decide (Reach A up x)=true:=Az (he.2 ⟨h0,by rw[hcu];exact .refl⟩);simp only[AB,Bi,h0,ne_eq,AW hcu,e]
  .simp only[AB,Bi,h0,ne_eq,hcu,(aHq w hc).call];refine AF.next (A.up c) rfl ⟨?_,?_,rfl⟩ ?_
   .by_cases hz:A.up c=0;·exact .inl hz
    .exact .inr (aHr ok hc hz)
   .rw[he,tL hcu];exact⟨λh=>h.2,λh=>⟨h0,h⟩⟩
   .by_cases hz:A.up c=0;·rw[if_pos hz,if_neg h0];omega
    .rw[if_neg hz,if_neg h0];have:=hr c hc hz;omega
theorem aHt{v:Aa}{l:List Int}(hv:Dg l v)(hb:l.length<=1000000000)(x:Int)(h:Ad):∃u,BI cx 273 [v,I x] h u h/\Dg (l.filter λk=>decide (k≠x)) u:=by
 have hm:AS=140737488355328:=rfl;have Ik:Ev cx 273 [v,I x] h λr h'=>Dg (l.filter λk=>decide (k≠x)) r/\h'=h:=by
  unfold Ev;rw[pj,aFL];refine Bb (λs:Aa×Nat=>[s.1,I (s.2:Int)]) (λs h1=>s.2<=l.length/\Dg ((l.take s.2).filter λk=>decide (k≠x)) s.1/\h1=h) (λs=>l.length-s.2) (.slnil,0) rfl ⟨AR _,.inr ⟨rfl,rfl⟩,rfl⟩ ?_;rintro⟨u,k⟩ h1 ⟨hk,hu,rfl⟩;simp only at hk hu;have hvl:=AM.Cp hv;rcases AT k l.length with hlt|D1
  .have e1:=AM.Bz (k:= .i64) hv hlt;rw[Cb] at e1;have em:Aw (.Bx 1) [I l[k]]=some (.sl 1 [Cb l[k]]):=rfl;have GG:((l.take k).filter λk=>decide (k≠x)).length<=l.length:=Bt (List.length_filter_le _ _) (by rw[Al];omega);have e2:=AM.Jb (b:=8) (a:=l[k]) hu (by omega);simp only[AB,Bi,hvl,show(k:Int)<(l.length:Int) by omega,e1,em,e2,BF (show k<9223372036854775807 by omega),ne_eq];refine⟨λh2=>?_,λh2=>?_⟩
   .refine AF.next (_,k+1) rfl ⟨hlt,?_,rfl⟩ (by simp only;omega);rw[Av hlt,EA];have:[l[k]].filter (λk=>decide (k≠x))=[l[k]]:=by simp[h2]
    rw[this];exact .mk
   .refine AF.next (u,k+1) rfl ⟨hlt,?_,rfl⟩ (by simp only;omega);rw[Av hlt,EA];have h2:l[k]=x:=by simpa using h2
    have:[l[k]].filter (λk=>decide (k≠x))=[]:=by simp[h2]
    rw[this,BC];exact hu
  .rw[Ay D1] at hu;simp only[AB,Bi,hvl,show¬(k:Int)<(l.length:Int) by omega];exact⟨_,rfl,hu⟩
 obtain⟨r,h',hr,hu,rfl⟩:=Ik.ret;exact⟨r,hr,hu⟩
theorem aHu(w:RA h a n i ps A)(hx:A.has x)(hb:∀y,(A.nd y).AY.length<=1000000000){e:Int}(ok:Eu A e):∃h' Iz,BI cx 222 [Pt a 0,I x] h (I 0) h'/\RA h' a n i Iz (A.cut x)/\De h (IA a n i) h' (IA a n i):=by
 by_cases hp:(A.nd x).E6=0;·refine⟨h,ps,?_,by unfold Ar.cut;simp only;rw[if_pos hp];exact w,.refl⟩;rw[Ab,oB,aBn];simp only[AB,Bi,(GY (x:=x) w).call,Az hx,w.nodes,w.addr hx,w.f1 hx,hp,ne_eq]
 .obtain⟨hq,_⟩:=ok.E6 x hx hp;obtain⟨q,eq⟩:∃q,q=(A.nd x).E6:=⟨_,rfl⟩;rw[<-eq] at hp hq;obtain⟨u,r1,hu⟩:=aHt (w.LF hq) (hb q) x h;obtain⟨h1,s1,w1,x1,l1⟩:=w.wr hq (k:=2) (by decide) (v:=u) (AM.cells hu) (p:=⟨{A.nd q with AY:=(A.nd q).AY.filter λk=>decide (k≠x)},u,(pR ps q).av,hu,w.ba hq⟩) (by simp only[RN.row];rw[(w.pn hq).2];rfl);have LX:(A.set q {A.nd q with AY:=(A.nd q).AY.filter λk=>decide (k≠x)}).has x:=Hw.2 hx;have WW:=(w1.pn LX).2;obtain⟨h2,s2,w2,x2,l2⟩:=w1.wr LX (k:=1) (by decide) (v:=I 0) rfl (p:=⟨{(A.set q {A.nd q with AY:=(A.nd q).AY.filter λk=>decide (k≠x)}).nd x with E6:=0},(pR _ x).kv,(pR _ x).av,w1.LF LX,w1.ba LX⟩) (by simp only[RN.row];rw[WW];rfl);have hA:A.cut x=(A.set q {A.nd q with AY:=(A.nd q).AY.filter λk=>decide (k≠x)}).set x {(A.set q {A.nd q with AY:=(A.nd q).AY.filter λk=>decide (k≠x)}).nd x with E6:=0}:=by unfold Ar.cut;simp only;rw[<-eq,if_neg hp]
  refine⟨h2,_,?_,by rw[hA];exact w2,x1.trans x2⟩;have e1:(A.nd x).E6=q:=eq.symm;have nd1:=w1.nodes;have ad1:=w1.addr LX;rw[Bj] at nd1 ad1;rw[Ab,oB,aBn];simp only[AB,Bi,(GY (x:=x) w).call,Az hx,w.nodes,w.addr hx,w.f1 hx,e1,hp,ne_eq,w.addr hq,w.f2 hq,r1.call,By,s1,nd1,s2]
open Classical in
theorem aHv{p b e:Int}(w:RA h a n i ps A)(ok:Eu A e):∃er:Int,BI cx 221 [Pt a 0,I p,I x,I b] h (I er) h/\(er=0↔yE A p x b):=by
 by_cases hp:A.has p;rotate_left;·refine⟨3,?_,⟨λh=>absurd h (by decide),λf=>absurd f.hp hp⟩⟩;rw[Ab,Je,Tz];simp only[AB,Bi,(GY (x:=p) w).call,AA hp,AP]
 by_cases hx:A.has x;rotate_left;·refine⟨3,?_,⟨λh=>absurd h (by decide),λf=>absurd f.hn hx⟩⟩;rw[Ab,Je,Tz];simp only[AB,Bi,(GY (x:=p) w).call,Az hp,(GY (x:=x) w).call,AA hx,AP]
 by_cases hb:b≠0/\¬A.has b;·refine⟨3,?_,⟨λh=>absurd h (by decide),λf=>absurd (f.hb hb.1).1 hb.2⟩⟩;rw[Ab,Je,Tz];simp only[AB,Bi,(GY (x:=p) w).call,Az hp,(GY (x:=x) w).call,Az hx,ne_eq,hb.1,(GY (x:=b) w).call,AA hb.2,AP]
 have hbh:b≠0->A.has b:=λh0=>by
  by_cases h1:A.has b;·exact h1
  .exact absurd ⟨h0,h1⟩ hb
 have first:∀(Q:Post) (k:EK->List Aa->IT),W cx (k .normal [ff]) Q h->W cx (.Df 200001 (.call 220 [Pt a 0,I p] λv0=> .op (.un .not) [v0] λv1=> .AH v1 (.ret .normal [tt]) (.call 220 [Pt a 0,I x] λv2=> .op (.un .not) [v2] λv3=> .AH v3 (.ret .normal [tt]) (.op (.int .neq) [I b,I 0] λv4=> .AH v4 (.call 220 [Pt a 0,I b] λv5=> .op (.un .not) [v5] λv6=> .ret .normal [v6]) (.ret .normal [ff])))) k) Q h:=by
  intro Q k hk;by_cases h0:b=0;·simp only[AB,Bi,(GY (x:=p) w).call,Az hp,(GY (x:=x) w).call,Az hx,ne_eq,h0,AP];exact hk
  .simp only[AB,Bi,(GY (x:=p) w).call,Az hp,(GY (x:=x) w).call,Az hx,ne_eq,h0,(GY (x:=b) w).call,Az (hbh h0),AP];exact hk
 by_cases kp:J9 (A.nd p).kind;rotate_left
 .refine⟨4,?_,⟨λh=>absurd h (by decide),λf=>absurd f.kp kp⟩⟩;unfold J9 at kp;have k1:¬(A.nd p).kind=1:=λe=>kp (.inl e);have k2:¬(A.nd p).kind=2:=λe=>kp (.inr (.inl e));have k4:¬(A.nd p).kind=4:=λe=>kp (.inr (.inr e));rw[Ab,Je,Tz];refine first _ _ ?_
  simp only[AB,Bi,w.nodes,w.addr hp,w.f0 hp,w.addr hx,w.f0 hx,AP,ne_eq,k1,k2,k4]
 by_cases n1:(A.nd x).kind=1
 .refine⟨4,?_,⟨λh=>absurd h (by decide),λf=>absurd n1 f.kn.1⟩⟩;rw[Ab,Je,Tz];refine first _ _ ?_
  rcases kp with kp|kp|kp<;>simp only[AB,Bi,w.nodes,w.addr hp,w.f0 hp,w.addr hx,w.f0 hx,AP,ne_eq,show¬(2:Int)=1 by decide,show¬(4:Int)=1 by decide,show¬(4:Int)=2 by decide,kp,n1]
 by_cases n2:(A.nd x).kind=2
 .refine⟨4,?_,⟨λh=>absurd h (by decide),λf=>absurd n2 f.kn.2⟩⟩;rw[Ab,Je,Tz];refine first _ _ ?_
  rcases kp with kp|kp|kp<;>simp only[AB,Bi,w.nodes,w.addr hp,w.f0 hp,w.addr hx,w.f0 hx,AP,ne_eq,show¬(2:Int)=1 by decide,show¬(4:Int)=1 by decide,show¬(4:Int)=2 by decide,kp,n2]
 have rc:=aHs w ok hx hp;by_cases re:Reach A x p
 .refine⟨4,?_,⟨λh=>absurd h (by decide),λf=>absurd re f.re⟩⟩;rw[Az re] at rc;rw[Ab,Je,Tz];refine first _ _ ?_
  rcases kp with kp|kp|kp<;>simp only[AB,Bi,w.nodes,w.addr hp,w.f0 hp,w.addr hx,w.f0 hx,AP,ne_eq,show¬(2:Int)=1 by decide,show¬(4:Int)=1 by decide,show¬(4:Int)=2 by decide,kp,n1,n2,rc.call]
 rw[AA re] at rc;by_cases b0:b=0
 .refine⟨0,?_,⟨λ_=>⟨hp,hx,λh=>absurd b0 h,kp,⟨n1,n2⟩,re⟩,λ_=>rfl⟩⟩;rw[Ab,Je,Tz];refine first _ _ ?_
  rcases kp with kp|kp|kp<;>simp only[AB,Bi,w.nodes,w.addr hp,w.f0 hp,w.addr hx,w.f0 hx,AP,ne_eq,show¬(2:Int)=1 by decide,show¬(4:Int)=1 by decide,show¬(4:Int)=2 by decide,kp,n1,n2,rc.call,b0]
 by_cases bx:b=x
 .refine⟨5,?_,⟨λh=>absurd h (by decide),λf=>absurd bx (f.hb b0).2.1⟩⟩;rw[Ab,Je,Tz];refine first _ _ ?_
  have Mo:¬x=0:=by rw[<-bx];exact b0
  rcases kp with kp|kp|kp<;>simp only[AB,Bi,w.nodes,w.addr hp,w.f0 hp,w.addr hx,w.f0 hx,AP,ne_eq,show¬(2:Int)=1 by decide,show¬(4:Int)=1 by decide,show¬(4:Int)=2 by decide,kp,n1,n2,rc.call,bx,Mo]
 have Pl:=hbh b0;by_cases bp:(A.nd b).E6=p
 .refine⟨0,?_,⟨λ_=>⟨hp,hx,λh=>⟨Pl,bx,bp⟩,kp,⟨n1,n2⟩,re⟩,λ_=>rfl⟩⟩;rw[Ab,Je,Tz];refine first _ _ ?_
  rcases kp with kp|kp|kp<;>simp only[AB,Bi,w.nodes,w.addr hp,w.f0 hp,w.addr hx,w.f0 hx,AP,ne_eq,show¬(2:Int)=1 by decide,show¬(4:Int)=1 by decide,show¬(4:Int)=2 by decide,kp,n1,n2,rc.call,b0,bx,w.addr Pl,w.f1 Pl,AW bp]
 .refine⟨5,?_,⟨λh=>absurd h (by decide),λf=>absurd (f.hb b0).2.2 bp⟩⟩;rw[Ab,Je,Tz];refine first _ _ ?_
  rcases kp with kp|kp|kp<;>simp only[AB,Bi,w.nodes,w.addr hp,w.f0 hp,w.addr hx,w.f0 hx,AP,ne_eq,show¬(2:Int)=1 by decide,show¬(4:Int)=1 by decide,show¬(4:Int)=2 by decide,kp,n1,n2,rc.call,b0,bx,w.addr Pl,w.f1 Pl,bp]
def Pf(b x:Int)(l:List Int):List Int:=l.flatMap λk=>if k=b then[x,k] else[k]
theorem Sw{b x:Int}:∀{l:List Int},b∉l->Pf b x l=l
 |[],_=>rfl
 |y::l,h=>by have h1:¬y=b:=λe=>h (by simp[e]);have h2:b∉l:=λe=>h (by simp[e]);have:=Sw (x:=x) h2;unfold Pf at this⊢;rw[eO,if_neg h1,this];rfl
theorem dT{b x:Int}:∀{l:List Int},l.Nodup->b∈l->Pf b x l=l.takeWhile (λk=>decide (k≠b))++x::l.dropWhile (λk=>decide (k≠b))
 |[],_,h=>by cases h
 |y::l,hn,h=>by
  rw[BV] at hn;by_cases h1:y=b;·subst h1;have:=Sw (x:=x) hn.1;unfold Pf at this⊢;rw[eO,if_pos rfl,this];simp
  .have h2:b∈l:=by rcases AL.1 h with h|h;exact absurd h.symm h1;exact h
   have:=dT (x:=x) hn.2 h2;unfold Pf at this⊢;rw[eO,if_neg h1,this,List.takeWhile_cons,List.dropWhile_cons];simp[h1]
theorem dU{b x:Int}{l:List Int}:(Pf b x l).length<=2*l.length:=by
 induction l with
 |nil=>simp[Pf]
 |cons y l ih=>unfold Pf at ih⊢;rw[eO,As,Bd];split<;>simp only[Bd,BT]<;>omega
theorem tM{b x y:Int}{l:List Int}:Pf b x (l++[y])=Pf b x l++if y=b then[x,y] else[y]:=by unfold Pf;rw[List.flatMap_append];simp
open Classical in
theorem aHw{p b e:Int}(w:RA h a n i ps A)(ok:Eu A e)(hb:∀y,(A.nd y).AY.length<=900000000):∃er h' Iz,BI cx 133 [Pt a 0,I p,I x,I b] h (I er) h'/\RA h' a n i Iz (A.Fe p x b)/\De h (IA a n i) h' (IA a n i):=by
 obtain⟨er,r1,her⟩:=aHv (p:=p) (x:=x) (b:=b) w ok;by_cases hf:yE A p x b;rotate_left;·have h0:¬er=0:=λh=>hf (her.1 h);refine⟨er,h,ps,?_,by rw[Ni hf];exact w,.refl⟩;rw[Ab,mW,aAR];simp only[AB,Bi,r1.call,ne_eq,h0]
 have h0:=her.2 hf;subst h0;obtain⟨h1,ZM,r2,w1,x1⟩:=aHu w hf.hn (λy=>Bt (hb y) (by decide)) ok;have dr:((A.cut x).nd p).AY.Nodup/\(b≠0->b∈((A.cut x).nd p).AY)/\((A.cut x).nd p).AY.length<=900000000/\(0:Int)∉((A.cut x).nd p).AY/\(A.cut x).has p/\(A.cut x).has x:=by
  have TG:=iI ok hf.hn hf.kn.2;have PH:(A.cut x).has p:=JX.2 hf.hp;refine⟨(TG.Q8 p PH).rX,λh0=>?_,?_,λh0=>?_,PH,JX.2 hf.hn⟩
  .obtain⟨b1,b2,b3⟩:=hf.hb h0;have bn:((A.cut x).nd b).E6=p:=by rw[Qc ok hf.hn,if_neg b2];split<;>exact b3
   have:=(TG.E6 b (JX.2 b1) (by rw[bn];have:=hf.hp.1;omega)).2;rwa [bn] at this
  .have h1:=hb p;have h2:=hb x;rw[Qc ok hf.hn];split;·exact h2
   .split;·exact Bt (List.length_filter_le _ _) h1
    .exact h1
  .have:=(TG.LF p PH 0 h0).1.1;omega
 obtain⟨dr,hbm,qc,hz,PH,LX⟩:=dr;generalize hA1:A.cut x=A1 at*;have Ik:Ev cx 133 [Pt a 0,I p,I x,I b] h λr h'=>r=I 0/\∃Iz,RA h' a n i Iz (A.Fe p x b)/\De h (IA a n i) h' (IA a n i):=by
  have hm:AS=140737488355328:=rfl;unfold Ev;rw[mW,aAR];simp only[AB,Bi,r1.call,ne_eq,r2.call];have Wt:=w1.LF PH;have lk:=AM.Cp Wt;refine Ei (i:=0) (λs:Aa×Nat=>[s.1,I (s.2:Int)]) (λs h2=>s.2<=(A1.nd p).AY.length/\Dg (Pf b x ((A1.nd p).AY.take s.2)) s.1/\h2=h1) (λs=>(A1.nd p).AY.length-s.2) (λs h2=>Dg (Pf b x (A1.nd p).AY) s.1/\h2=h1) (.slnil,0) rfl ⟨AR _,.inr ⟨rfl,rfl⟩,rfl⟩ ?_ ?_
  .rintro⟨u,k⟩ h2 ⟨hk,hu,rfl⟩;simp only at hk hu;rcases AT k (A1.nd p).AY.length with hlt|D1
   .have e1:=AM.Bz (k:= .i64) Wt hlt;rw[Cb] at e1;have ZH:=dU (b:=b) (x:=x) (l:=(A1.nd p).AY.take k);rw[Al] at ZH;have em1:Aw (.Bx 1) [I x]=some (.sl 1 [Cb x]):=rfl;have sW:Aw (.Bx 1) [I (A1.nd p).AY[k]]=some (.sl 1 [Cb (A1.nd p).AY[k]]):=rfl;have hs:=tM (b:=b) (x:=x) (y:=(A1.nd p).AY[k]) (l:=(A1.nd p).AY.take k);rw[<-Av hlt] at hs;by_cases fk:(A1.nd p).AY[k]=b;·have a1:=AM.Jb (b:=8) (a:=x) hu (by omega);have NG:Dg (Pf b x ((A1.nd p).AY.take k)++[x]) (.sl 1 ((Pf b x ((A1.nd p).AY.take k)++[x]).map Cb)):= .mk;have a2:=AM.Jb (b:=8) (a:=(A1.nd p).AY[k]) NG (by rw[As,Br];omega);rw[if_pos fk,show[x,(A1.nd p).AY[k]]=[x]++[(A1.nd p).AY[k]] from rfl,<-AD] at hs;simp only[AB,Bi,w1.nodes,w1.addr PH,w1.f2 PH,lk,show(k:Int)<((A1.nd p).AY.length:Int) by omega,e1,AW fk,em1,a1,sW,a2,AP,BF (show k<9223372036854775807 by omega)];exact .next (_,k+1) rfl ⟨hlt,by rw[hs];exact .mk,rfl⟩ (by simp only;omega)
    .have a2:=AM.Jb (b:=8) (a:=(A1.nd p).AY[k]) hu (by omega);rw[if_neg fk] at hs;simp only[AB,Bi,w1.nodes,w1.addr PH,w1.f2 PH,lk,show(k:Int)<((A1.nd p).AY.length:Int) by omega,e1,fk,sW,a2,AP,BF (show k<9223372036854775807 by omega)];exact .next (_,k+1) rfl ⟨hlt,by rw[hs];exact .mk,rfl⟩ (by simp only;omega)
   .rw[Ay D1] at hu;simp only[AB,Bi,w1.nodes,w1.addr PH,w1.f2 PH,lk,show¬(k:Int)<((A1.nd p).AY.length:Int) by omega];exact .Hv (u,k) rfl ⟨hu,rfl⟩
  .rintro⟨u,k⟩ h2 ⟨hu,rfl⟩;simp only at hu;obtain⟨u2,Il,hw⟩:∃u2,Dg (Ig (A1.nd p).AY b x) u2/\(b=0->Aw (.append 1 8) [u,.sl 1 [Cb x]]=some u2)/\(b≠0->u2=u):=by
    have ZH:=dU (b:=b) (x:=x) (l:=(A1.nd p).AY);by_cases h0:b=0;·have a1:=AM.Jb (b:=8) (a:=x) hu (by omega);refine⟨_,?_,λ_=>a1,λh=>absurd h0 h⟩;have e:Pf b x (A1.nd p).AY=(A1.nd p).AY:=Sw (by rw[h0];exact hz);rw[e];unfold Ig;rw[if_pos h0];exact .mk
    .refine⟨u,?_,λh=>absurd h h0,λ_=>rfl⟩;unfold Ig;rw[if_neg h0,<-dT dr (hbm h0)];exact hu
   obtain⟨h3,s3,w3,x3,_⟩:=w1.wr PH (k:=2) (by decide) (v:=u2) (AM.cells Il) (p:=⟨{A1.nd p with AY:=Ig (A1.nd p).AY b x},u2,(pR ZM p).av,Il,w1.ba PH⟩) (by simp only[RN.row];rw[(w1.pn PH).2];rfl);have qj:(A1.set p {A1.nd p with AY:=Ig (A1.nd p).AY b x}).has x:=Hw.2 LX;have WW:=(w3.pn qj).2;obtain⟨h4,s4,w4,x4,_⟩:=w3.wr qj (k:=1) (by decide) (v:= I p) rfl (p:=⟨{(A1.set p {A1.nd p with AY:=Ig (A1.nd p).AY b x}).nd x with E6:=p},(pR _ x).kv,(pR _ x).av,w3.LF qj,w3.ba qj⟩) (by simp only[RN.row];rw[WW];rfl);have hA:A.Fe p x b=(A1.set p {A1.nd p with AY:=Ig (A1.nd p).AY b x}).set x {(A1.set p {A1.nd p with AY:=Ig (A1.nd p).AY b x}).nd x with E6:=p}:=by unfold Ar.Fe;rw[if_pos hf,hA1];rfl
   have nd3:=w3.nodes;have ad3:=w3.addr qj;rw[Bj] at nd3 ad3;have em1:Aw (.Bx 1) [I x]=some (.sl 1 [Cb x]):=rfl;by_cases h0:b=0;·have a1:=hw.1 h0;simp only[AB,Bi,AW h0,em1,a1,AP,w1.nodes,w1.addr PH,s3,nd3,ad3,s4];exact⟨_,rfl,rfl,_,by rw[hA];exact w4,(x1.trans x3).trans x4⟩
   .have e2:=hw.2 h0;subst e2;simp only[AB,Bi,h0,AP,w1.nodes,w1.addr PH,s3,nd3,ad3,s4];exact⟨_,rfl,rfl,_,by rw[hA];exact w4,(x1.trans x3).trans x4⟩
 obtain⟨r,h',hr,rfl,Iz,w',x'⟩:=Ik.ret;exact⟨0,h',Iz,hr,w',x'⟩
end
section
variable{h h':Ad}{a n i:Nat}{ps:List RN}{A:Ar}{x:Int}{G:Nat->Prop}
theorem pY(s:Int):JG cx 186 [I s] (.bool (decide (BS.Hn s))):=by rw[LZ,mn,aFa];by_cases h1:0<=s<;>by_cases h2:s<=7<;>simp[h1,h2,BS.Hn]
theorem pZ(w:RA h a n i ps A)(hl:A.len<=1000000000)(p:RN):∃h' n' i',BI cx 164 [Pt a 0,.agg p.row] h (I (A.len+1)) h'/\RA h' a n' i' (ps++[p]) (A.add p.x)/\De h (IA a n i) h' (IA a n' i'):=by
 have hm:AS=140737488355328:=rfl;have hlen:=w.len;have XZ:=w.il;have ZH:ps.length<=1000000000:=by unfold Ar.len at hl;omega
 have g1:=IG (b:=168) (Au:=(RN.z::ps).map RN.row) (r2:=[p.row]) (v:= .sl 13 [p.row]) (cy _) (by decide) w.hn .mk (by simp) (by simp;omega);have e1:((RN.z::ps).map RN.row).length=ps.length+1:=by simp
 rw[e1,Br] at g1;have el1:(h.set n .CG++[Dc.cells ((RN.z::ps).map RN.row++[p.row]).flatten]).length=h.length+1:=by simp
 have er1:(h.set n .CG++[Dc.cells ((RN.z::ps).map RN.row++[p.row]).flatten])[h.length]?=some (.cells ((RN.z::(ps++[p])).map RN.row).flatten):=by rw[Bg (by simp)];simp
 have hal:=w.lt (.inl rfl);have aMx:=w.lt (.inr (.inr rfl));have NF:=w.lt (.inr (.inl rfl));have a1:(h.set n .CG++[Dc.cells ((RN.z::ps).map RN.row++[p.row]).flatten])[a]?=some (.cells [.Cl n 0 (ps.length+1) 13,.Cl i 0 (ps.length+1) 1]):=by rw[Af (by simpa using hal),Aj (DQ w.d.1)];exact w.ha
 have i1:(h.set n .CG++[Dc.cells ((RN.z::ps).map RN.row++[p.row]).flatten])[i]?=some (.cells ((0::A.i).map (Aa.int .i64))):=by rw[Af (by simpa using aMx),Aj w.d.2.2];exact w.hi
 have o1:∀j,j<h.length->j≠n->(h.set n .CG++[Dc.cells ((RN.z::ps).map RN.row++[p.row]).flatten])[j]?=h[j]?:=λj hj hn=>by rw[Af (by simpa using hj),Aj (DQ hn)]
 generalize h.set n .CG++[Dc.cells ((RN.z::ps).map RN.row++[p.row]).flatten]=h1 at*;have t1:At h1 a 0 _:=⟨_,a1,rfl⟩;have s1:=t1.store (u:= .Cl h.length 0 (ps.length+1+1) 13) rfl;have a2:=Hg (k:=0) (v:= .Cl h.length 0 (ps.length+1+1) 13) a1;have n2:(put h1 a 0 (.Cl h.length 0 (ps.length+1+1) 13))[h.length]?=_:=(B4 (by omega)).trans er1;have i2:(put h1 a 0 (.Cl h.length 0 (ps.length+1+1) 13))[i]?=_:=(B4 (DQ w.d.2.1)).trans i1;have o2:∀j,j<h.length->j≠n->j≠a->(put h1 a 0 (.Cl h.length 0 (ps.length+1+1) 13))[j]?=h[j]?:=λj hj hn ha=>(B4 ha).trans (o1 j hj hn);have el2:(put h1 a 0 (.Cl h.length 0 (ps.length+1+1) 13)).length=h.length+1:=by rw[IC,el1]
 generalize put h1 a 0 (.Cl h.length 0 (ps.length+1+1) 13)=h2 at*;have l2:A6 h2 none (Pt a 1)=some (.Cl i 0 (ps.length+1) 1):=At.load ⟨_,a2,rfl⟩;have g2:=IG (b:=8) (h:=h2) (id:=i) (Au:=(0::A.i).map Cb) (r2:=[Cb 0]) (v:= .sl 1 [[I 0]]) (K5 (f:=Cb) (λ_=>rfl) _) (by decide) (by rw[MC];exact i2) (.inl rfl) (by simp) (by simp;omega);have e2:((0::A.i).map Cb).length=ps.length+1:=by simp;omega
 rw[e2,Br,el2] at g2;have aMy:a<h2.length:=by omega
 have a3:(h2.set i .CG++[Dc.cells ((0::A.i).map Cb++[Cb 0]).flatten])[a]?=_:=((Af (by simpa using aMy)).trans (Aj (DQ w.d.2.1))).trans a2;have n3:(h2.set i .CG++[Dc.cells ((0::A.i).map Cb++[Cb 0]).flatten])[h.length]?=_:=((Af (by simp;omega)).trans (Aj (by omega))).trans n2;have i3:(h2.set i .CG++[Dc.cells ((0::A.i).map Cb++[Cb 0]).flatten])[h.length+1]?=some (.cells ((0::(A.i++[0])).map (Aa.int .i64))):=by rw[Bg (by simp;omega)];simp only[Bj,el2,DC,JN];rw[<-MC];simp
 have o3:∀j,j<h.length->j≠n->j≠a->j≠i->(h2.set i .CG++[Dc.cells ((0::A.i).map Cb++[Cb 0]).flatten])[j]?=h[j]?:=λj hj hn ha hi=>((Af (by simp;omega)).trans (Aj (DQ hi))).trans (o2 j hj hn ha)
 have el3:(h2.set i .CG++[Dc.cells ((0::A.i).map Cb++[Cb 0]).flatten]).length=h.length+2:=by simp;omega
 generalize h2.set i .CG++[Dc.cells ((0::A.i).map Cb++[Cb 0]).flatten]=h3 at*;have t3:At h3 a 1 (.Cl i 0 (ps.length+1) 1):=⟨_,a3,rfl⟩;have s3:=t3.store (u:= .Cl (h.length+1) 0 (ps.length+1+1) 1) rfl;have a4:=Hg (k:=1) (v:= .Cl (h.length+1) 0 (ps.length+1+1) 1) a3;have l4:A6 (put h3 a 1 (.Cl (h.length+1) 0 (ps.length+1+1) 1)) none (Pt a 0)=some (.Cl h.length 0 (ps.length+1+1) 13):=At.load ⟨_,a4,rfl⟩;refine⟨put h3 a 1 (.Cl (h.length+1) 0 (ps.length+1+1) 1),h.length,h.length+1,?_,⟨?_,?_,?_,?_,?_,?_⟩,⟨by rw[IC];omega,λj hj hn=>?_,λj hj=>?_⟩⟩
 .have em:Aw (.Bx 13) [.agg p.row]=some (.sl 13 [p.row]):=rfl;have sW:Aw (.Bx 1) [I 0]=some (.sl 1 [[I 0]]):=rfl;have hd:=Hl (n:=ps.length+1+1) (by omega) (by omega);have hA:A.len+1=((ps.length+1+1 -1:Nat):Int):=by unfold Ar.len;omega
  have lm:Aw (.len false) [.Cl h.length 0 (ps.length+1+1) 13]=some (I ((ps.length+1+1:Nat):Int)):=rfl;rw[RN.row] at em g1;rw[Ab,l_,t164,RN.row,hA];simp only[AB,Bi,w.nodes,em,g1,s1,l2,sW,g2,s3,l4,lm,hd]
 .unfold Ar.add;simp only;rw[w.e,BH];rfl
 .unfold Ar.add;simp only[As,Br];omega
 .rw[a4,As];rfl
 .rw[B4 (by omega)];exact n3
 .rw[B4 (by omega)];exact i3
 .exact⟨by omega,by omega,by omega⟩
 .have h1:j≠a:=λe=>hn (.inl e);have h2:j≠n:=λe=>hn (.inr (.inl e));have h3:j≠i:=λe=>hn (.inr (.inr e));rw[B4 h1];exact o3 j hj h2 h1 h3
 .rcases hj with rfl|rfl|rfl
  .exact .inl (.inl rfl)
  .exact .inr (Ac _)
  .exact .inr (Gd _)
theorem xe{v:Aa}{l:List AU}(hv:Bw l v)(hb:l.length<=1000000000)(hs:∀y∈l,BS.Hn y.AZ)(h:Ad):BI cx 243 [v] h (.bool true) h:=by
 rw[Ab,og,aFw];refine Bb (λk:Nat=>[ff,I (k:Int)]) (λk h1=>k<=l.length/\h1=h) (λk=>l.length-k) 0 rfl ⟨AR _,rfl⟩ ?_;rintro k h1 ⟨hk,rfl⟩;have hvl:=AM.Cp hv;rcases AT k l.length with hlt|D1
 .have e1:=AM.Bz (k:= .i64) hv hlt;rw[AU.row] at e1;have r1:∀{Q:Post} {h:Ad} {kk:Aa->IT},W cx (.Bc 186 [I l[k].AZ] kk) Q h↔W cx (kk (.bool (decide (BS.Hn l[k].AZ)))) Q h:=(pY _).Bc rfl rfl;simp only[AB,Bi,hvl,show(k:Int)<(l.length:Int) by omega,e1,r1,Az (hs _ (AI hlt)),BF (show k<9223372036854775807 by omega)];exact AF.next (k+1) rfl ⟨hlt,rfl⟩ (by omega)
 .simp only[AB,Bi,hvl,show¬(k:Int)<(l.length:Int) by omega]
theorem xf{v:Aa}{l:List AU}(hv:Bw l v)(hb:l.length<=1000000000)(h:Ad):∃u,BI cx 244 [v] h u h/\Bw (Ce l) u:=by
 have hm:AS=140737488355328:=rfl;have hvl:=AM.Cp hv;have Ik:Ev cx 244 [v] h λr h'=>Bw (Ce l) r/\h'=h:=by
  unfold Ev;rw[oh,aFx];refine Bb (λs:Aa×Nat=>[s.1,I (s.2:Int)]) (λs h1=>s.2<=l.length/\Bw (Ce (l.take s.2)) s.1/\h1=h) (λs=>l.length-s.2) (.slnil,0) rfl ⟨AR _,.inr ⟨rfl,rfl⟩,rfl⟩ ?_;rintro⟨u,k⟩ h1 ⟨hk,hu,rfl⟩;simp only at hk hu;rcases AT k l.length with hlt|D1
  .have ZI:=AM.Cp hu;have uE:=OW (l:=l.take k);rw[Al] at uE;have e1:=AM.Bz (k:= .i64) hv hlt;rw[AU.row] at e1;simp only[AB,↓reduceIte,Bi,hvl,show(k:Int)<(l.length:Int) by omega];refine Ei (i:=2) (λj:Nat=>[.bool (((Ce (l.take k)).take j).any λz=>decide (C7 l[k]=C7 z)),I (j:Int)]) (λj h2=>j<=(Ce (l.take k)).length/\h2=h1) (λj=>(Ce (l.take k)).length-j) (λj h2=>j=(Ce (l.take k)).length/\h2=h1) 0 rfl ⟨AR _,rfl⟩ ?_ ?_
   .rintro j h2 ⟨hj,rfl⟩;rcases AT j (Ce (l.take k)).length with hlj|hgj
    .have e2:=AM.Bz (k:= .i64) hu hlj;rw[AU.row] at e2;have es:((Ce (l.take k)).take (j+1)).any (λz=>decide (C7 l[k]=C7 z))=(((Ce (l.take k)).take j).any (λz=>decide (C7 l[k]=C7 z))||decide (C7 l[k]=C7 (Ce (l.take k))[j])):=by rw[Av hlj,List.any_append];simp
     by_cases c1:(Ce (l.take k))[j].AZ=l[k].AZ
     .by_cases c2:(Ce (l.take k))[j].name=l[k].name
      .have hky:decide (C7 l[k]=C7 (Ce (l.take k))[j])=true:=by simp[C7,c1,c2]
       simp only[AB,Bi,ZI,show(j:Int)<((Ce (l.take k)).length:Int) by omega,e1,e2,AW c1,Az c2,BF (show j<9223372036854775807 by omega)];exact .next (j+1) (by rw[es,hky,Bool.or_true]) ⟨hlj,rfl⟩ (by omega)
      .have hky:decide (C7 l[k]=C7 (Ce (l.take k))[j])=false:=by simp[C7];exact λ_ h=>c2 h.symm
       simp only[AB,Bi,ZI,show(j:Int)<((Ce (l.take k)).length:Int) by omega,e1,e2,AW c1,AA c2,BF (show j<9223372036854775807 by omega)];exact .next (j+1) (by rw[es,hky,Bool.or_false]) ⟨hlj,rfl⟩ (by omega)
     .have hky:decide (C7 l[k]=C7 (Ce (l.take k))[j])=false:=by simp[C7];exact λh=>absurd h.symm c1
      simp only[AB,Bi,ZI,show(j:Int)<((Ce (l.take k)).length:Int) by omega,e1,e2,c1,BF (show j<9223372036854775807 by omega)];exact .next (j+1) (by rw[es,hky,Bool.or_false]) ⟨hlj,rfl⟩ (by omega)
    .simp only[AB,Bi,ZI,show¬(j:Int)<((Ce (l.take k)).length:Int) by omega];exact .Hv j rfl ⟨by omega,rfl⟩
   .rintro j h2 ⟨rfl,rfl⟩;have e3:Ce (l.take (k+1))=if(Ce (l.take k)).any (λz=>decide (C7 l[k]=C7 z)) then Ce (l.take k) else Ce (l.take k)++[l[k]]:=by rw[Av hlt];exact O3
    have em:Aw (.Bx 3) [.agg [I l[k].AZ,.str l[k].name,.str l[k].value]]=some (.sl 3 [[I l[k].AZ,.str l[k].name,.str l[k].value]]):=rfl;have a1:=AM.Jb (f:=AU.row) (b:=40) (a:=l[k]) hu (by omega);rw[AU.row] at a1;rw[Bu];cases hq:(Ce (l.take k)).any (λz=>decide (C7 l[k]=C7 z)) with
    |true=>rw[if_pos hq] at e3;simp only[AB,↓reduceIte,Bi,BF (show k<9223372036854775807 by omega)];exact AF.next (u,k+1) rfl ⟨hlt,by rw[e3];exact hu,rfl⟩ (by simp only;omega)
    |false=>rw[if_neg (by rw[hq];decide)] at e3;simp only[AB,Nat.reduceLeDiff,↓reduceIte,Bi,e1,em,a1,BF (show k<9223372036854775807 by omega)];exact AF.next (_,k+1) rfl ⟨hlt,by rw[e3];exact .mk,rfl⟩ (by simp only;omega)
  .rw[Ay D1] at hu;simp only[AB,↓reduceIte,Bi,hvl,show¬(k:Int)<(l.length:Int) by omega];exact⟨_,rfl,hu⟩
 obtain⟨r,h',hr,hu,rfl⟩:=Ik.ret;exact⟨r,hr,hu⟩
end
section
variable{h h':Ad}{a n i:Nat}{ps:List RN}{A:Ar}{x d:Int}{G:Nat->Prop}
theorem p8(w:RA h a n i ps A)(hd:A.has d)(hk:(A.nd d).kind=1):BI cx 167 [Pt a 0,I d] h (I 0) h:=by rw[Ab,mb,aE3];simp only[AB,Bi,(GY (x:=d) w).call,Az hd,w.nodes,w.addr hd,w.f0 hd,hk,ne_eq]
theorem aHB(w:RA h a n i ps A)(hl:A.len<=1000000000)(hd:A.has d)(hk:(A.nd d).kind=1)(k:Int)(s:Ap):
  ∃h' n' i' Iz,BI cx 191 [Pt a 0,I d,.agg [I k,I 0,.slnil,I 0,I 0,S [],.slnil,.str s,S [],S [],ff,I 0,I 0]] h (.tuple [I (A.len+1),I 0]) h'/\RA h' a n' i' Iz (A.add {kind:=k,Cy:=d,data:=s})/\De h (IA a n i) h' (IA a n' i'):=by
 obtain⟨h1,n1,i1,r1,w1,x1⟩:=pZ w hl ⟨{kind:=k,Cy:=d,data:=s},.slnil,.slnil,.inr ⟨rfl,rfl⟩,.inr ⟨rfl,rfl⟩⟩;refine⟨h1,n1,i1,_,?_,w1,x1⟩;rw[RN.row] at r1;rw[Ab,mw,aFf];simp only[AB,Bi,(p8 w hd hk).call,r1.call,ne_eq]
theorem aHC(w:RA h a n i ps A)(hl:A.len<=1000000000)(q:Bool):
  ∃h' n' i' Iz,BI cx 68 [Pt a 0,.bool q] h (I (A.len+1)) h'/\RA h' a n' i' Iz (A.add {kind:=1,Cy:=A.len+1,Cq:=q})/\De h (IA a n i) h' (IA a n' i'):=by
 obtain⟨h1,n1,i1,r1,w1,x1⟩:=pZ w hl ⟨{kind:=1,Cy:=A.len+1,Cq:=q},.slnil,.slnil,.inr ⟨rfl,rfl⟩,.inr ⟨rfl,rfl⟩⟩;refine⟨h1,n1,i1,_,?_,w1,x1⟩;have hn:=w.len;have e:((ps.length+1:Nat):Int)=A.len+1:=by unfold Ar.len;omega
 have lm:Aw (.len false) [.Cl n 0 (ps.length+1) 13]=some (I (A.len+1)):=by rw[<-e];rfl
 rw[RN.row] at r1;rw[Ab,aAl,t68];simp only[AB,Nat.reduceLeDiff,↓reduceIte,AK,Bi,w.nodes,lm,r1.call]
theorem RA.p9(w:RA h a n i ps A)(hx:A.has x):Aw (.Fj 1) [.Cl i 0 (ps.length+1) 1,I x]=some (Pt i x.toNat):=by obtain⟨h1,h2⟩:=w.at hx;have:=EX (k:= .i64) (id:=i) (z:=1) h1;rwa [h2,Kj] at this
theorem RA.iat(w:RA h a n i ps A)(hx:A.has x):At h i x.toNat (I (A.inr x)):=by obtain⟨h1,h2⟩:=w.at hx;have h3:=hx.1;have hl:=w.len;have XZ:=w.il;refine⟨_,w.hi,?_⟩;obtain⟨k,hk⟩:∃k,x.toNat=k+1:=⟨x.toNat-1,by omega⟩;rw[hk,Bl,tY,Cr];unfold Ar.inr;rw[if_pos hx,hk,GF,AE,Ae (by omega)];rfl
theorem RA.aHE(w:RA h a n i ps A)(hx:A.has x)(v:Int):RA (put h i x.toNat (I v)) a n i ps (A.H5 x v)/\De h (IA a n i) (put h i x.toNat (I v)) (IA a n i):=by
 obtain⟨h1,h2⟩:=w.at hx;have h3:=hx.1;refine⟨⟨w.e,?_,(B4 w.d.2.1).trans w.ha,(B4 w.d.2.2).trans w.hn,?_,w.d⟩,⟨by rw[IC];exact Ac _,λj _ hn=>B4 λe=>hn (.inr (.inr e)),λj hj=> .inl hj⟩⟩;·unfold Ar.H5;simp only;rw[if_pos hx,Bj];exact w.il
 .rw[Hg w.hi];obtain⟨k,hk⟩:∃k,x.toNat=k+1:=⟨x.toNat-1,by omega⟩;unfold Ar.H5;simp only;rw[if_pos hx,hk,GF,Bl,List.set_cons_succ,Bl,Fh]
theorem aHF(w:RA h a n i ps A)(hl:A.len<=1000000000)(hd:A.has d):∃h' n' i' Iz,BI cx 246 [Pt a 0,I d] h (I (A.ET d)) h'/\RA h' a n' i' Iz (A.CU d)/\De h (IA a n i) h' (IA a n' i'):=by
 by_cases h0:A.inr d=0;rotate_left
 .refine⟨h,n,i,ps,?_,by unfold Ar.CU;rw[if_pos h0];exact w,.refl⟩;have e:A.ET d=A.inr d:=by unfold Ar.ET;rw[if_pos h0]
  rw[Ab,oK,aBw,e];simp only[AB,Bi,w.VS,w.p9 hd,(w.iat hd).load,h0]
 .obtain⟨h1,n1,i1,ZM,r1,w1,x1⟩:=aHC w hl false;have YS:(A.add {kind:=1,Cy:=A.len+1,Cq:=false}).has d:=Di.2 (.inl hd);have LV:(A.add {kind:=1,Cy:=A.len+1,Cq:=false}).has (A.len+1):=Di.2 (.inr rfl);obtain⟨w2,x2⟩:=w1.aHE YS (A.len+1);have Rx:((A.add {kind:=1,Cy:=A.len+1,Cq:=false}).H5 d (A.len+1)).has (A.len+1):=LV;have hd2:(((A.add {kind:=1,Cy:=A.len+1,Cq:=false}).H5 d (A.len+1)).H5 (A.len+1) (A.len+1)).has d:=YS;obtain⟨w3,x3⟩:=w2.aHE Rx (A.len+1);have e:A.ET d=A.len+1:=by unfold Ar.ET;rw[if_neg (by simpa using h0)]
  have eA:A.CU d=(((A.add {kind:=1,Cy:=A.len+1,Cq:=false}).H5 d (A.len+1)).H5 (A.len+1) (A.len+1)):=by unfold Ar.CU;rw[if_neg (by simpa using h0)]
  refine⟨_,n1,i1,ZM,?_,by rw[eA];exact w3,(x1.trans x2).trans x3⟩;have ei:(((A.add {kind:=1,Cy:=A.len+1,Cq:=false}).H5 d (A.len+1)).H5 (A.len+1) (A.len+1)).inr d=A.len+1:=by
   have il1:(A.add {kind:=1,Cy:=A.len+1,Cq:=false}).i.length=(A.add {kind:=1,Cy:=A.len+1,Cq:=false}).n.length:=w1.il;rw[Ot w2.il,Ot il1];split;·rfl
   .rw[if_pos ⟨rfl,YS⟩]
  have s1:=(w1.iat YS).store (u:= I (A.len+1)) rfl;have s2:=(w2.iat Rx).store (u:= I (A.len+1)) rfl;have ld:=(w3.iat hd2).load;rw[ei] at ld;rw[Ab,oK,aBw,e];simp only[AB,Bi,w.VS,w.p9 hd,(w.iat hd).load,h0,r1.call,w1.VS,w1.p9 YS,s1,w2.VS,w2.p9 Rx,s2,w3.VS,ld]
theorem aHG{v:Aa}{l:List AU}(w:RA h a n i ps A)(hx:A.has x)(hk:(A.nd x).kind=4)(hv:Bw l v)(hb:l.length<=1000000000)(hs:∀y∈l,BS.Hn y.AZ):
  ∃h' Iz,BI cx 198 [Pt a 0,I x,v] h (I 0) h'/\RA h' a n i Iz (A.Iu x l)/\De h (IA a n i) h' (IA a n i):=by
 have r1:=xe hv hb hs h;obtain⟨u,r2,hu⟩:=xf hv hb h;obtain⟨h1,s1,w1,x1,_⟩:=w.wr hx (k:=6) (by decide) (v:=u) (AM.cells hu) (p:=⟨{A.nd x with Ax:=Ce l},(pR ps x).kv,u,w.LF hx,hu⟩) (by simp only[RN.row];rw[(w.pn hx).2];rfl);refine⟨h1,_,?_,w1,x1⟩;rw[Ab,nh,aFl];simp only[AB,Bi,(GY (x:=x) w).call,Az hx,w.nodes,w.addr hx,w.f0 hx,hk,ne_eq,r1.call,r2.call,By,s1]
theorem aHH(p:RN)(h:Ad):BI cx 245 [.agg p.row] h (.bool (decide (YP p.x))) h:=by rw[Ab,oj,aFy,RN.row];simp only[AB,YP];refine⟨λh1=>⟨λh2=>?_,λh2=>?_⟩,λh1=>?_⟩<;>simp[*]
theorem RA.xg(w:RA h a n i ps A)(hx:A.has x):A6 h (some 13) (Pt n (nR x))=some (.agg (pR ps x).row):=by
 obtain⟨h1,h2⟩:=w.at hx;have hlt:x.toNat<(RN.z::ps).length:=by simpa using h1
 have:=XV (cy _) w.hn (i:=x.toNat) (by simpa using h1);rw[CX] at this;have e:=(w.pn hx).1;rw[Ae hlt,BA] at e;rw[e] at this;exact this
theorem xh{v:Aa}{l:List AU}{sp:Int}{nm:Ap}(w:RA h a n i ps A)(hl:A.len+3<=1000000000)(hd:A.has d)(hk:(A.nd d).kind=1)(hs:BS.Hn sp)(hv:Bw l v)(hb:l.length<=1000000000)(vO:∀y∈l,BS.Hn y.AZ):
  ∃h' n' i' Iz,BI cx 165 [Pt a 0,I d,I sp,.str nm,v] h (.tuple [I (A.len+1),I 0]) h'/\RA h' a n' i' Iz (A.elem d sp nm l)/\De h (IA a n i) h' (IA a n' i'):=by
 have r1:=xe hv hb vO h;obtain⟨u,r2,hu⟩:=xf hv hb h;have huc:u.cells=[u]:=AM.cells hu;obtain⟨h1,n1,i1,r3,w1,x1⟩:=pZ w (by omega) ⟨{kind:=4,Cy:=d,AZ:=sp,name:=nm,Ax:=Ce l},.slnil,u,.inr ⟨rfl,rfl⟩,hu⟩;have r0:∀{Q:Post} {h:Ad} {kk:Aa->IT},W cx (.Bc 186 [I sp] kk) Q h↔W cx (kk (.bool (decide (BS.Hn sp)))) Q h:=(pY _).Bc rfl rfl;have LV:(A.add {kind:=4,Cy:=d,AZ:=sp,name:=nm,Ax:=Ce l}).has (A.len+1):=Di.2 (.inr rfl);have YS:(A.add {kind:=4,Cy:=d,AZ:=sp,name:=nm,Ax:=Ce l}).has d:=Di.2 (.inl hd);have T3:(A.add {kind:=4,Cy:=d,AZ:=sp,name:=nm,Ax:=Ce l}).len=A.len+1:=by unfold Ar.add Ar.len;simp
 have r4:=aHH (pR (ps++[⟨{kind:=4,Cy:=d,AZ:=sp,name:=nm,Ax:=Ce l},.slnil,u,.inr ⟨rfl,rfl⟩,hu⟩]) (A.len+1)) h1;rw[(w1.pn LV).2,HM,if_pos rfl] at r4;have ld:=w1.xg LV;rw[RN.row] at r3;unfold Ar.elem;simp only
 by_cases hT:YP {kind:=4,Cy:=d,AZ:=sp,name:=nm,Ax:=Ce l};rotate_left;·rw[if_neg hT];rw[AA hT] at r4;refine⟨h1,n1,i1,_,?_,w1,x1⟩;rw[Ab,nF,aA3];simp only[AB,Nat.reduceLeDiff,↓reduceIte,AK,Bi,(p8 w hd hk).call,ne_eq,r0,Az hs,r1.call,r2.call,huc,r3.call,w1.nodes,w1.addr LV,ld,r4.call]
 .rw[if_pos hT];rw[Az hT] at r4;generalize hA1:A.add {kind:=4,Cy:=d,AZ:=sp,name:=nm,Ax:=Ce l}=A1 at*;generalize ps++[(⟨{kind:=4,Cy:=d,AZ:=sp,name:=nm,Ax:=Ce l},.slnil,u,.inr ⟨rfl,rfl⟩,hu⟩:RN)]=ZM at*;obtain⟨h2,n2,i2,jJ,r5,w2,x2⟩:=aHF w1 (by omega) YS;have Xv:(A1.CU d).len<=A.len+2:=by
   unfold Ar.CU;split;·omega
   .rw[Q6,Q6];have:(A1.add {kind:=1,Cy:=A1.len+1}).len=A1.len+1:=by unfold Ar.add Ar.len;simp
    omega
  have Rx:(A1.CU d).has (A.len+1):=by
   unfold Ar.CU;split;·exact LV
   .rw[Mu,Mu];exact Di.2 (.inl LV)
  obtain⟨h3,n3,i3,r6,w3,x3⟩:=pZ w2 (by omega) ⟨{kind:=2,DT:=A.len+1,Cy:=A1.ET d},.slnil,.slnil,.inr ⟨rfl,rfl⟩,.inr ⟨rfl,rfl⟩⟩;have vz:((A1.CU d).add {kind:=2,DT:=A.len+1,Cy:=A1.ET d}).has (A.len+1):=Di.2 (.inl Rx);have aCB:((A1.CU d).add {kind:=2,DT:=A.len+1,Cy:=A1.ET d}).nd (A.len+1)={kind:=4,Cy:=d,AZ:=sp,name:=nm,Ax:=Ce l}:=by
   have DV:=Rx.2;rw[HM,if_neg (by unfold Ar.len at DV⊢;omega)];have h0:A1.nd (A.len+1)={kind:=4,Cy:=d,AZ:=sp,name:=nm,Ax:=Ce l}:=by rw[<-hA1,HM,if_pos rfl]
   unfold Ar.CU;split;·exact h0
   .rw[Q7,Q7,HM,if_neg (by omega)];exact h0
  have WW:=(w3.pn vz).2;rw[aCB] at WW;obtain⟨h4,s4,w4,x4,_⟩:=w3.wr vz (k:=11) (by decide) (v:= I ((A1.CU d).len+1)) rfl (p:=⟨{kind:=4,Cy:=d,AZ:=sp,name:=nm,Ax:=Ce l,cont:=(A1.CU d).len+1},(pR _ (A.len+1)).kv,(pR _ (A.len+1)).av,by have:=w3.LF vz;rw[aCB] at this;exact this,by have:=w3.ba vz;rw[aCB] at this;exact this⟩) (by simp only[RN.row];rw[WW];rfl);refine⟨h4,n3,i3,_,?_,w4,((x1.trans x2).trans x3).trans x4⟩;rw[RN.row] at r6;have nd3:=w3.nodes;have ad3:=w3.addr vz;rw[Ab,nF,aA3];simp only[AB,Nat.reduceLeDiff,↓reduceIte,AK,Bi,(p8 w hd hk).call,ne_eq,r0,Az hs,r1.call,r2.call,huc,r3.call,w1.nodes,w1.addr LV,ld,r4.call,r5.call,r6.call,nd3,ad3,s4]
end
structure RX(h:Ad)(bi a:Nat)(o c t:Aa)(G:Nat->Prop)(b:BS):Prop where
 hb:h[bi]?=some (.cells (Jg a b o c t))
 o:BN b.AO o
 t:Dg b.tm t
 w:RW h G a b.a
 nb:¬G bi
section
variable{h h':Ad}{bi a:Nat}{o c t:Aa}{G G' F:Nat->Prop}{b:BS}{x:Int}{m:Nat}
theorem RX.lt(w:RX h bi a o c t G b):bi<h.length:=(Ah.1 w.hb).1
theorem RX.CW{h':Ad}(w:RX h bi a o c t G b)(hf:∀i,i=bi\/G i->h'[i]?=h[i]?):RX h' bi a o c t G b:=
 ⟨by rw[hf bi (.inl rfl)];exact w.hb,w.o,w.t,w.w.CW λi hi=>hf i (.inr hi),w.nb⟩
theorem RX.HA(w:RX h bi a o c t G b){u:Ad}:RX (h++u) bi a o c t G b:=w.CW λi hi=>Af (by rcases hi with rfl|hi;exact w.lt;exact w.w.lt hi)
theorem RX.ld(w:RX h bi a o c t G b)(k:Nat):A6 h none (Pt bi k)=(Jg a b o c t)[k]?:=by simp only[A6,w.hb,Et]
theorem RX.l0(w:RX h bi a o c t G b):A6 h none (Pt bi 0)=some (Pt a 0):=w.ld 0
theorem RX.l1(w:RX h bi a o c t G b):A6 h none (Pt bi 1)=some (I b.Cy):=w.ld 1
theorem RX.l4(w:RX h bi a o c t G b):A6 h none (Pt bi 4)=some (I b.mode):=w.ld 4
theorem RX.l7(w:RX h bi a o c t G b):A6 h none (Pt bi 7)=some (I b.head):=w.ld 7
theorem RX.l9(w:RX h bi a o c t G b):A6 h none (Pt bi 9)=some (.bool b.Im):=w.ld 9
theorem RX.uM(w:RX h bi a o c t G b):A6 h none (Pt bi 15)=some (.bool b.Eh):=w.ld 15
theorem RX.l3(w:RX h bi a o c t G b):A6 h none (Pt bi 3)=some c:=w.ld 3
theorem RX.l6(w:RX h bi a o c t G b):A6 h none (Pt bi 6)=some t:=w.ld 6
theorem RX.pL(w:RX h bi a o c t G b):At h bi 3 c:=⟨_,w.hb,rfl⟩
theorem RX.pM{A':Ar}(w:RX h bi a o c t G b)(hp:RW h' G' a A')(x:De h G h' G'):RX h' bi a o c t G' {b with a:=A'}/\De h (own bi G) h' (own bi G'):=
 ⟨⟨by rw[x.old bi w.lt w.nb];exact w.hb,w.o,w.t,hp,λhg=>by rcases x.own bi hg with h|h;exact w.nb h;have:=w.lt;omega⟩,x.wg⟩
theorem RX.CN(w:RX h bi a o c t G b){u:Ad}:De h (own bi G) (h++u) (own bi G):= .HA
theorem RX.put{k:Nat}{v o' c' t':Aa}{b':BS}(w:RX h bi a o c t G b)(e:(Jg a b o c t).set k v=Jg a b' o' c' t')(ea:b'.a=b.a)(ho:BN b'.AO o')(ht:Dg b'.tm t'):RX (Am.put h bi k v) bi a o' c' t' G b':=
 ⟨by rw[Hm w.hb,e];exact AN w.lt,ho,ht,by rw[ea];exact w.w.CW λi hi=>B4 λe=>w.nb (e▸hi),w.nb⟩
theorem RX.Ia{u:Aa}{l:List Item}(w:RX h bi a o c t G b)(hu:BN l u):RX (Am.put h bi 2 u) bi a u c t G {b with AO:=l}:=w.put rfl rfl hu w.t
theorem RX.Kf{u:Aa}{l:List Cc}(w:RX h bi a o c t G b):RX (Am.put h bi 3 u) bi a o u t G {b with A4:=l}:=w.put rfl rfl w.o w.t
theorem RX.st{k:Nat}{v v0:Aa}(w:RX h bi a o c t G b)(hk:(Jg a b o c t)[k]?=some v0)(hv:v.cells=[v]):Cv h 1 (Pt bi k) v=some (Am.put h bi k v):=At.store (v:=v0) ⟨_,w.hb,hk⟩ hv
theorem RX.sY(w:RX h bi a o c t G b):A6 h (some 4) (Pt bi 10)=some (.agg b.ctx.row):=by simp only[A6,w.hb];rfl
theorem RX.dH(w:RX h bi a o c t G b)(v:Int):RX (Am.put h bi 4 (I v)) bi a o c t G {b with mode:=v}:=w.put rfl rfl w.o w.t
theorem RX.jQ{u:Aa}{l:List Int}(w:RX h bi a o c t G b)(hu:Dg l u):RX (Am.put h bi 6 u) bi a o c u G {b with tm:=l}:=w.put rfl rfl w.o hu
theorem RX.step{A':Ar}{R:Ad->Prop}(w:RX h bi a o c t G b)(hPA:∀n i ps,RA h a n i ps b.a->∃h' n' i' Iz,R h'/\RA h' a n' i' Iz A'/\De h (IA a n i) h' (IA a n' i')):
  ∃h' G',R h'/\RX h' bi a o c t G' {b with a:=A'}/\De h (own bi G) h' (own bi G'):=by
 obtain⟨n,i,ps,wa,e⟩:=w.w;obtain⟨h',n',i',Iz,r,w',x⟩:=hPA n i ps wa;obtain⟨w2,x2⟩:=w.pM (G':=IA a n' i') ⟨n',i',Iz,w',rfl⟩ (by rw[e];exact x);exact⟨h',_,r,w2,x2⟩
theorem Ln(w:RX h bi a o c t G b)(x:Int):BI cx 139 [Pt bi 0,I x] h (I (b.a.nd x).kind) h:=by
 obtain⟨n,i,ps,wa,e⟩:=w.w;rw[Ab,lf,aEX];by_cases hx:b.a.has x;·simp only[AB,Bi,w.l0,(GY (x:=x) wa).call,Az hx,wa.nodes,wa.addr hx,wa.f0 hx]
 .rw[GI hx];simp only[AB,Bi,w.l0,(GY (x:=x) wa).call,AA hx]
theorem qA(w:RX h bi a o c t G b)(x:Int):BI cx 192 [Pt bi 0,I x] h (I (if b.a.has x then(b.a.nd x).Cy else b.Cy)) h:=by
 obtain⟨n,i,ps,wa,e⟩:=w.w;rw[Ab,my,aFg];by_cases hx:b.a.has x;·rw[if_pos hx];simp only[AB,Bi,w.l0,(GY (x:=x) wa).call,Az hx,wa.nodes,wa.addr hx,wa.f3 hx]
 .rw[if_neg hx];simp only[AB,Bi,w.l0,(GY (x:=x) wa).call,AA hx,w.l1]
theorem xi(w:RX h bi a o c t G b)(x:Int)(ws:Ap)(hw:ws.length<9223372036854775806)(hn:(b.a.nd x).name.length<9223372036854775807):BI cx 47 [Pt bi 0,I x,.str ws] h (.bool (decide ((b.a.nd x).kind=4/\(b.a.nd x).AZ=1)&&Fy ws (b.a.nd x).name)) h:=by
 obtain⟨n,i,ps,wa,e⟩:=w.w;rw[Ab,aAi,t47];by_cases hk:(b.a.nd x).kind=4
 .have hx:b.a.has x:=by
   by_cases hp:b.a.has x;·exact hp
   .rw[GI hp] at hk;simp at hk
  have r2:∀{Q:Post} {h:Ad} {kk:Aa->IT},W cx (.Bc 140 [.str ws,.str (b.a.nd x).name] kk) Q h↔W cx (kk (.bool (Fy ws (b.a.nd x).name))) Q h:=(aFU ws _ hw hn).Bc rfl rfl;by_cases hs:(b.a.nd x).AZ=1;·simp only[AB,Bi,(Ln w x).call,AW hk,w.l0,wa.nodes,wa.addr hx,wa.f4 hx,AW hs,wa.f5 hx,r2,IW]
  .simp only[AB,Bi,(Ln w x).call,AW hk,w.l0,wa.nodes,wa.addr hx,wa.f4 hx,hs,IW]
 .simp only[AB,Bi,(Ln w x).call,hk,IW]
end
section
variable{h h':Ad}{bi a:Nat}{o c t:Aa}{G G' F:Nat->Prop}{b:BS}{x:Int}{m:Nat}
theorem RX.Zy(w:RX h bi a o c t G b)(ok:DG b)(rm:BQ b m)(p x bf:Int):∃er h' G',BI cx 133 [Pt a 0,I p,I x,I bf] h (I er) h'/\RX h' bi a o c t G' {b with a:=b.a.Fe p x bf}/\De h (own bi G) h' (own bi G'):=by
 have hk:∀y,(b.a.nd y).AY.length<=900000000:=λy=>Bt (VU ok.ok y) (by have:=rm.n;omega);obtain⟨h',G',⟨er,r⟩,w',x'⟩:=w.step (A':=b.a.Fe p x bf) (R:=λh'=>∃er:Int,BI cx 133 [Pt a 0,I p,I x,I bf] h (I er) h') λn i ps wa=>by obtain⟨er,h',Iz,r,w',x'⟩:=aHw (p:=p) (x:=x) (b:=bf) wa ok.ok hk;exact⟨h',n,i,Iz,⟨er,r⟩,w',x'⟩
 exact⟨er,h',G',r,w',x'⟩
theorem RX.self(w:RX h bi a o c t G b){A':Ar}(e:A'=b.a):RX h bi a o c t G {b with a:=A'}:=by subst e;exact w
theorem qB(w:RX h bi a o c t G b)(ok:DG b)(rm:BQ b m)(p x bf:Int):∃h' G',BI cx 131 [Pt bi 0,I p,I x,I bf] h (.tuple []) h'/\RX h' bi a o c t G' {b with a:=b.a.DZ x p bf}/\De h (own bi G) h' (own bi G'):=by
 obtain⟨er,h1,G1,r1,w1,x1⟩:=w.Zy ok rm p x bf;by_cases hp:(b.a.nd p).kind=1;rotate_left
 .have e:b.a.DZ x p bf=b.a.Fe p x bf:=by unfold Ar.DZ;rw[if_neg λh=>hp h.1]
  refine⟨h1,G1,?_,by rw[e];exact w1,x1⟩;rw[Ab,Y2,kx];simp only[AB,Bi,(Ln w p).call,hp,w.l0,r1.call]
 by_cases hx:(b.a.nd x).kind=4;rotate_left
 .have e:b.a.DZ x p bf=b.a.Fe p x bf:=by unfold Ar.DZ;rw[if_neg λh=>hx h.2.1]
  refine⟨h1,G1,?_,by rw[e];exact w1,x1⟩;rw[Ab,Y2,kx];simp only[AB,Bi,(Ln w p).call,AW hp,(Ln w x).call,hx,w.l0,r1.call]
 have OH:(b.a.nd p).AY.length<=1000000000:=Bt (VU ok.ok p) (by have:=rm.n;omega);obtain⟨kv,r2,pK⟩:∃v,BI cx 132 [Pt a 0,I p] h v h/\Dg (b.a.nd p).AY v:=by obtain⟨n,i,ps,wa,_⟩:=w.w;exact cz wa OH
 have Ik:Ev cx 131 [Pt bi 0,I p,I x,I bf] h λr h'=>r= .tuple []/\∃G',RX h' bi a o c t G' {b with a:=b.a.DZ x p bf}/\De h (own bi G) h' (own bi G'):=by
  unfold Ev;have hvl:=AM.Cp pK;rw[Y2,kx];simp only[AB,Bi,(Ln w p).call,AW hp,(Ln w x).call,AW hx,w.l0,r2.call];refine Bb (λk:Nat=>[I (k:Int)]) (λk h1=>k<=(b.a.nd p).AY.length/\(∀y∈(b.a.nd p).AY.take k,¬(b.a.nd y).kind=4)/\h1=h) (λk=>(b.a.nd p).AY.length-k) 0 rfl ⟨AR _,λy hy=>by simp at hy,rfl⟩ ?_;rintro k h2 ⟨hk,ha,rfl⟩;rcases AT k (b.a.nd p).AY.length with hlt|D1
  .have e1:=AM.Bz (k:= .i64) pK hlt;rw[Cb] at e1;by_cases h4:(b.a.nd (b.a.nd p).AY[k]).kind=4
   .have e:b.a.DZ x p bf=b.a:=by unfold Ar.DZ;rw[if_pos ⟨hp,hx,_,AI hlt,h4⟩]
    simp only[AB,Bi,hvl,show(k:Int)<((b.a.nd p).AY.length:Int) by omega,e1,(Ln w _).call,AW h4];exact⟨_,rfl,rfl,G,w.self e,.refl⟩
   .simp only[AB,Bi,hvl,show(k:Int)<((b.a.nd p).AY.length:Int) by omega,e1,(Ln w _).call,h4,BF (show k<9223372036854775807 by omega)];refine AF.next (k+1) rfl ⟨hlt,λy hy=>?_,rfl⟩ (by omega);rw[Av hlt] at hy;rcases Ao.1 hy with hy|hy
    .exact ha y hy
    .rw[Fi] at hy;rw[hy];exact h4
  .rw[Ay D1] at ha;have e:b.a.DZ x p bf=b.a.Fe p x bf:=by unfold Ar.DZ;rw[if_neg λh=>by obtain⟨_,_,y,hy,h4⟩:=h;exact ha y hy h4]
   simp only[AB,Bi,hvl,show¬(k:Int)<((b.a.nd p).AY.length:Int) by omega,w.l0,r1.call];exact⟨_,rfl,rfl,G1,by rw[e];exact w1,x1⟩
 obtain⟨r,h',hr,rfl,G',w',x'⟩:=Ik.ret;exact⟨h',G',hr,w',x'⟩
theorem aHI{v:Aa}{l:List Int}(hv:Dg l v)(hb:l.length<=1000000000)(x:Int)(h:Ad):BI cx 190 [v,I x] h (I (B9 (λy=>decide (x=y)) 0 l)) h:=by
 rw[Ab,mv,aFe];have hvl:=AM.Cp hv;refine Bb (λk:Nat=>[I 0,I (k:Int)]) (λk h1=>k<=l.length/\B9 (λy=>decide (x=y)) 0 l=B9 (λy=>decide (x=y)) k (l.drop k)/\h1=h) (λk=>l.length-k) 0 rfl ⟨AR _,rfl,rfl⟩ ?_;rintro k h1 ⟨hk,ha,rfl⟩;rcases AT k l.length with hlt|D1
 .have e1:=AM.Bz (k:= .i64) hv hlt;rw[Cb] at e1;rw[AG hlt,B9] at ha;simp only[AB,Bi,hvl,show(k:Int)<(l.length:Int) by omega,e1,BF (show k<9223372036854775807 by omega)];refine⟨λh2=>?_,λh2=>?_⟩;·rw[ha,if_pos (by simp[h2])]
  .rw[if_neg (by simpa using λe=>h2 e.symm)] at ha;exact AF.next (k+1) rfl ⟨hlt,ha,rfl⟩ (by omega)
 .rw[A3 D1,B9] at ha;simp only[AB,Bi,hvl,show¬(k:Int)<(l.length:Int) by omega,ha]
end
section
variable{h h':Ad}{bi a:Nat}{o c t:Aa}{G G' F:Nat->Prop}{b:BS}{x:Int}{m:Nat}
theorem c_(w:RX h bi a o c t G b)(x:Int):BI cx 143 [Pt a 0,I x] h (I (b.a.nd x).E6) h:=by obtain⟨n,i,ps,wa,_⟩:=w.w;exact aHp wa
theorem dV(w:RX h bi a o c t G b)(rm:BQ b m):BI cx 18 [Pt bi 0] h (.agg (D7 b.AO).row) h:=by have ho:=rm.AO;have ld:A6 h none (Pt bi 2)=some o:=w.ld 2;rw[Ab,X_,t18];simp only[AB,EB,ld,(aK3 w.o (by omega)).call]
theorem aHJ(w:RX h bi a o c t G b)(rm:BQ b m):BI cx 48 [Pt bi 0] h (.tuple [I b.I3.1,I b.I3.2]) h:=by
 have hl:=rm.AO;have ld:A6 h none (Pt bi 2)=some o:=w.ld 2;have r1:=aB0 (h:=h) w.o (by omega) Ew;have r2:=aB0 (h:=h) w.o (by omega) A5;have b1:=JL (q:=Bp [Ew]) (l:=b.AO);have b2:=JL (q:=Bp [A5]) (l:=b.AO);have at_:∀k:Nat,k<b.AO.length->Aw (.Fj 4) [o,I (k:Int)]=some (.CA [I (Gy b.AO k).node,I (Gy b.AO k).AZ,.str (Gy b.AO k).name,.bool (Gy b.AO k).NA]):=λk hk=>by have:=AM.Bz (k:= .i64) w.o hk;rw[He hk,this];rfl
 unfold BS.I3;simp only
 generalize AJ (Bp [Ew]) b.AO=tb at r1 b1⊢;generalize AJ (Bp [A5]) b.AO=tp at r2 b2⊢;rw[Ab,aAj,t48];by_cases h1:tb<tp;·obtain⟨k,rfl⟩:∃k:Nat,tp=(k:Int):=⟨tp.toNat,by omega⟩;rw[if_pos h1];simp only[AB,Bi,ld,r2.call,By,r1.call,show(0:Int)<=(k:Int) by omega,h1,AP,at_ k (by omega),IW]
 .rw[if_neg h1];by_cases h2:tb<0;·rw[if_pos h2];by_cases h0:(0:Int)<=tp<;>simp only[AB,Bi,EB,r2.call,By,r1.call,h0,h1,AP,IW,h2,ld,(f281 (h:=h) w.o 0).call]
  .obtain⟨k,rfl⟩:∃k:Nat,tb=(k:Int):=⟨tb.toNat,by omega⟩;rw[if_neg h2];by_cases h3:(b.a.nd (Gy b.AO k).node).E6=0
   .rw[if_neg (by simpa using h3)];by_cases h4:k=0
    .have e:max ((k:Int)-1) 0=(k:Int):=by omega
     by_cases h0:(0:Int)<=tp<;>simp only[AB,Bi,EB,r2.call,By,r1.call,h0,h1,AP,IW,show¬(k:Int)<0 by omega,ld,at_ k (by omega),w.l0,(c_ w _).call,h3,ne_eq,AW (show(k:Int)=0 by omega),e]
    .have hd:=Hl (n:=k) (by omega) (by omega);have e:max ((k:Int)-1) 0=((k-1:Nat):Int):=by omega
     by_cases h0:(0:Int)<=tp<;>simp only[AB,Bi,EB,r2.call,By,r1.call,h0,h1,AP,IW,show¬(k:Int)<0 by omega,ld,at_ k (by omega),w.l0,(c_ w _).call,h3,ne_eq,show¬(k:Int)=0 by omega,hd,at_ (k-1) (by omega),e]
   .rw[if_pos h3];by_cases h0:(0:Int)<=tp<;>simp only[AB,Bi,EB,r2.call,By,r1.call,h0,h1,AP,IW,h2,ld,at_ k (by omega),w.l0,(c_ w _).call,h3,ne_eq]
end
theorem da{s:Ap}:Fy aSt s=decide (s∈GO):=DS (by decide+kernel) (by decide+kernel)
theorem sd{s:Ap}:Fy aSo s=decide (s∈[A5]):=DS (by decide+kernel) (by decide+kernel)
theorem X3{A:Ar}{y:Int}{ws:List Ap}{q:Bool}(hq:q=decide ((A.nd y).name∈ws)):(decide ((A.nd y).kind=4/\(A.nd y).AZ=1)&&q)=decide (Ra ws A y):=by subst hq;rw[<-Bool.decide_and];rw[D0];unfold Ra;exact⟨λh=>⟨h.1.1,h.1.2,h.2⟩,λh=>⟨⟨h.1,h.2.1⟩,h.2.2⟩⟩
theorem Ki{A:Ar}(ok:Eu A 0)(y:Int):(A.nd y).cont≠0↔Ra [A5] A y:=by
 by_cases hy:A.has y
 .constructor;·intro h;have:=(ok.Q8 y hy).S5 h;exact⟨this.1,this.2.1,by rw[this.2.2];simp⟩
  .intro h;exact ok.jg y hy (by have:=hy.1;omega) ⟨h.1,h.2.1,by simpa using h.2.2⟩
 .rw[GI hy];constructor;·intro h;simp at h
  .intro h;have:=h.1;rw[GI hy] at this;simp at this
section
variable{h h':Ad}{bi a:Nat}{o c t:Aa}{G G' F:Nat->Prop}{b:BS}{x:Int}{m:Nat}
theorem aHK(w:RX h bi a o c t G b)(hnm:∀x,(b.a.nd x).name.length<=1000)(x:Int):BI cx 47 [Pt bi 0,I x,S aSt] h (.bool (decide (Ra GO b.a x))) h:=by have:=xi w x aSt (by decide) (by have:=hnm x;omega);rwa [X3 da] at this
theorem xj(w:RX h bi a o c t G b)(hnm:∀x,(b.a.nd x).name.length<=1000)(x:Int):BI cx 47 [Pt bi 0,I x,S aSo] h (.bool (decide (Ra [A5] b.a x))) h:=by have:=xi w x aSo (by decide) (by have:=hnm x;omega);rwa [X3 sd] at this
theorem dW(w:RX h bi a o c t G b)(ok:DG b)(rm:BQ b m)(hnm:∀x,(b.a.nd x).name.length<=1000)(x:Int):BI cx 15 [Pt bi 0,I x] h (.tuple [I (b.place x).1,I (b.place x).2]) h:=by
 have ho:=rm.AO;have ld:A6 h none (Pt bi 2)=some o:=w.ld 2;have lo:=AM.Cp w.o;have r1:=dV w rm;have r2:=aHJ w rm;obtain⟨n,i,ps,wa,_⟩:=w.w;rw[Ab,V_,t15];by_cases he:x=0/\b.AO=[]
 .have e:b.place x=(b.Cy,0):=by unfold BS.place;rw[if_pos he]
  have lo0:Aw (.len false) [o]=some (I 0):=by rw[lo,he.2];rfl
  rw[e];simp only[AB,Bi,AW he.1,ld,lo0,w.l1,AP]
 obtain⟨t',FH⟩:∃t',t'=if x=0 then(D7 b.AO).node else x:=⟨_,rfl⟩
 obtain⟨pb,XL⟩:∃pb:Int×Int,pb=if b.Eh=true/\Ra GO b.a t' then b.I3 else(t',0):=⟨_,rfl⟩
 have e:b.place x=if(b.a.nd pb.1).cont≠0 then((b.a.nd pb.1).cont,0) else pb:=by unfold BS.place;rw[if_neg he];simp only;rw[<-FH,<-XL]
 have r4:=aHK w hnm t';have r5:=xj w hnm pb.1;have Rr:=w.uM;have aP:x=0->¬(b.AO.length:Int)=0:=λh0 h1=>he ⟨h0,uA.1 (by omega)⟩;rw[e];cases hfo:b.Eh with
 |false=>
  rw[hfo] at Rr;rw[if_neg (by rw[hfo];intro h;exact absurd h.1 (by decide))] at XL;subst XL;simp only at r5⊢;by_cases hT:Ra [A5] b.a t'
  .have hc:=(Ki ok.ok t').2 hT;have hh:b.a.has t':=by
    by_cases hp:b.a.has t';·exact hp
    .have:=hT.1;rw[GI hp] at this;simp at this
   rw[Az hT] at r5;rw[if_pos hc];by_cases Mo:x=0;·rw[if_pos Mo] at FH;subst FH;simp only[AB,Bi,EB,AW Mo,ld,lo,aP Mo,r1.call,AP,Rr,r5.call,w.l0,wa.nodes,wa.addr hh,wa.xd hh]
   .rw[if_neg Mo] at FH;subst FH;simp only[AB,Bi,Mo,AP,Rr,r5.call,w.l0,wa.nodes,wa.addr hh,wa.xd hh]
  .have hc:=λh=>hT ((Ki ok.ok t').1 h);rw[AA hT] at r5;rw[if_neg hc];by_cases Mo:x=0;·rw[if_pos Mo] at FH;subst FH;simp only[AB,Bi,EB,AW Mo,ld,lo,aP Mo,r1.call,AP,Rr,r5.call]
   .rw[if_neg Mo] at FH;subst FH;simp only[AB,Bi,Mo,AP,Rr,r5.call]
 |true=>
  rw[hfo] at Rr;by_cases hw:Ra GO b.a t'
  .rw[if_pos ⟨hfo,hw⟩] at XL;subst XL;rw[Az hw] at r4;by_cases hT:Ra [A5] b.a b.I3.1
   .have hc:=(Ki ok.ok b.I3.1).2 hT;have hh:b.a.has b.I3.1:=by
     by_cases hp:b.a.has b.I3.1;·exact hp
     .have:=hT.1;rw[GI hp] at this;simp at this
    rw[Az hT] at r5;rw[if_pos hc];by_cases Mo:x=0;·rw[if_pos Mo] at FH;subst FH;simp only[AB,Bi,EB,AW Mo,ld,lo,aP Mo,r1.call,AP,Rr,r4.call,r2.call,r5.call,w.l0,wa.nodes,wa.addr hh,wa.xd hh]
    .rw[if_neg Mo] at FH;subst FH;simp only[AB,Bi,Mo,AP,Rr,r4.call,r2.call,r5.call,w.l0,wa.nodes,wa.addr hh,wa.xd hh]
   .have hc:=λh=>hT ((Ki ok.ok b.I3.1).1 h);rw[AA hT] at r5;rw[if_neg hc];by_cases Mo:x=0;·rw[if_pos Mo] at FH;subst FH;simp only[AB,Bi,EB,AW Mo,ld,lo,aP Mo,r1.call,AP,Rr,r4.call,r2.call,r5.call]
    .rw[if_neg Mo] at FH;subst FH;simp only[AB,Bi,Mo,AP,Rr,r4.call,r2.call,r5.call]
  .rw[if_neg (λh=>hw h.2)] at XL;subst XL;rw[AA hw] at r4;simp only at r5⊢;by_cases hT:Ra [A5] b.a t'
   .have hc:=(Ki ok.ok t').2 hT;have hh:b.a.has t':=by
     by_cases hp:b.a.has t';·exact hp
     .have:=hT.1;rw[GI hp] at this;simp at this
    rw[Az hT] at r5;rw[if_pos hc];by_cases Mo:x=0;·rw[if_pos Mo] at FH;subst FH;simp only[AB,Bi,EB,AW Mo,ld,lo,aP Mo,r1.call,AP,Rr,r4.call,r5.call,w.l0,wa.nodes,wa.addr hh,wa.xd hh]
    .rw[if_neg Mo] at FH;subst FH;simp only[AB,Bi,Mo,AP,Rr,r4.call,r5.call,w.l0,wa.nodes,wa.addr hh,wa.xd hh]
   .have hc:=λh=>hT ((Ki ok.ok t').1 h);rw[AA hT] at r5;rw[if_neg hc];by_cases Mo:x=0;·rw[if_pos Mo] at FH;subst FH;simp only[AB,Bi,EB,AW Mo,ld,lo,aP Mo,r1.call,AP,Rr,r4.call,r5.call]
    .rw[if_neg Mo] at FH;subst FH;simp only[AB,Bi,Mo,AP,Rr,r4.call,r5.call]
end
def Nm(A:Ar):Prop:=∀x,(A.nd x).name.length<=1000
section
variable{A A':Ar}{b:BS}{q:ZP}{m j:Nat}{nm:Ap}{l:List AU}{sp p x:Int}
theorem Nm.le(h:Nm A)(hl:Le A A')(hn:A'.n.length=A.n.length):Nm A':=λy=>by
 by_cases hy:A.has y;·rw[hl.name y hy];exact h y
 .have:¬A'.has y:=by unfold Ar.has at hy⊢;rw[hn];exact hy
  rw[GI this];simp
theorem Nm.add(h:Nm A){y:Eg}(hy:y.name.length<=1000):Nm (A.add y):=λx=>by
 rw[HM];split;·exact hy
 .exact h x
theorem Nm.set(h:Nm A){y:Eg}{k:Int}(hy:y.name.length<=1000):Nm (A.set k y):=λx=>by
 rw[IK];split;·exact hy
 .exact h x
theorem Nm.H5(h:Nm A){k v:Int}:Nm (A.H5 k v):=λx=>by rw[Q7];exact h x
theorem Nm.Fe(h:Nm A){bf:Int}:Nm (A.Fe p x bf):=h.le Nd (IZ (A:=A)).n
theorem Nm.DZ(h:Nm A){bf:Int}:Nm (A.DZ x p bf):=h.le H6 (I0 (A:=A)).n
theorem Nm.CU(h:Nm A){d:Int}:Nm (A.CU d):=by
 unfold Ar.CU;split;·exact h
 .exact(h.add (by simp)).H5.H5
theorem Nm.elem(h:Nm A){d:Int}(hn:nm.length<=1000):Nm (A.elem d sp nm l):=by
 have h1:Nm (A.add {kind:=4,Cy:=d,AZ:=sp,name:=nm,Ax:=Ce l}):=h.add hn;unfold Ar.elem;simp only
 split;·exact(h1.CU.add (by simp)).set hn
 .exact h1
theorem Nm.mk(h:Nm b.a)(hn:nm.length<=1000):Nm (b.D8 nm l sp p).a:=by
 unfold BS.D8;split;·exact h.elem (by rw[VC];exact hn)
 .exact h
theorem Nm.L7(h:Nm b.a)(hn:nm.length<=1000):Nm (b.Ex nm l sp).a:=by
 unfold BS.Ex;split;·exact(h.mk hn).DZ
 .exact h
theorem Nm.Ku(h:Nm A){s:Ap}{bf:Int}:Nm (BS.Ku A s p bf):=by
 unfold BS.Ku;split
 .split
  .split;·exact h.set (h _)
   .exact(h.add (by simp)).DZ
  .exact(h.add (by simp)).DZ
 .exact h
theorem Nm.Eo(h:Nm A){s:Ap}{bf:Int}:Nm (BS.Eo A s p bf):=by
 unfold BS.Eo;split;·exact(h.add (by simp)).DZ
 .exact h
theorem Nm.Iv:∀{l:List Cc} {b:BS},Nm b.a->(∀e∈l,e.name.length<=1000)->Nm (BS.Iv l b).2.a
 |[],b,h,_=>h
 |e::l,b,h,hl=>by rw[BS.Iv];exact Nm.Iv (h.L7 (hl e (by simp))) λx hx=>hl x (by simp[hx])
theorem Nm.GB(h:Nm b.a):Nm (b.GB l x).a:=by
 unfold BS.GB;split;·exact h.set (h _)
 .exact h
theorem Nm.EL{blk anc:Int}{far i:Nat}{l:Int}{mk:Nat}(h:Nm b.a)(r:BQ b m):Nm (BS.EL blk anc far i b l mk).1.a:=by
 unfold BS.EL;simp only
 split;·exact h
 .split;·exact h
  .rename_i he _;obtain⟨p,hp,e1,_,_,_⟩:=GD (L6.1 he);rw[e1,AQ,AE,Ae hp,Ib];exact(h.mk (r.Dk _ (AI hp)).1).Fe
theorem Nm.Jl{blk anc:Int}{far k m:Nat}:∀{c:Nat} {s:BS×Int×Nat},Nm s.1.a->BQ s.1 (m+4*c)->Nm (BS.Jl blk anc far k c s).1.a
 |0,s,h,_=>h
 |c+1,s,h,r=>Nm.Jl (c:=c) (h.EL r) (Nl (m:=m+4*c) (r.le (by omega)))
theorem Nm.Ci{n:Int}:∀{l:List Int} {A:Ar},Nm A->Nm (BS.Ci A n l)
 |[],A,h=>h
 |y::l,A,h=>Nm.Ci (l:=l) (h.Fe (p:=n) (x:=y) (bf:=0))
theorem Nm.FM{fe:Cc}{blk anc:Int}{s:BS×Int×Nat}(h:Nm s.1.a)(Jn:fe.name.length<=1000):Nm (BS.FM fe blk anc s).a:=by
 unfold BS.FM;simp only
 generalize XL:s.1.place anc=pb;have h2:Nm (s.1.a.DZ s.2.1 pb.1 pb.2):=h.DZ;have h3:=Nm.mk (b:={s.1 with a:=s.1.a.DZ s.2.1 pb.1 pb.2}) (nm:=fe.name) (l:=fe.Ax) (sp:=1) (p:=blk) h2 Jn;exact(Nm.Ci h3).Fe
theorem Nm.round(h:Nm b.a)(r:BQ b (m+4*b.AO.length+10)):Nm (b.round nm).2.a:=by
 unfold BS.round;simp only
 split
 .have:(b.C0 nm).a=b.a:=by
   unfold BS.C0;split;·split<;>rfl
   .rfl
  rw[this];exact h
 .rename_i hf;obtain⟨f,GG,ef⟩:=Rn (L6.1 hf);have Uf:b.A4.getD (FI nm b.A4).toNat Cc.zero=b.A4[f]:=by rw[ef,AQ,AE,Ae GG];rfl
  have Jn:=r.Dk _ (AI GG);rw[Uf];split;·exact h
  .split;·exact h
   .split;·exact h
    .have hlt:(Dz b.A4[f].node b.AO).toNat-1 -(AJ (Bm b.A4[f].node) b.AO).toNat<=b.AO.length:=by
      rw[HL];split;·omega
      .unfold Em;split;·rename_i j hj;have:=(Hz.1 hj).1;rw[A8] at this;omega
       .omega
     exact Nm.FM (Nm.Jl (m:=m) h (r.le (by omega))) Jn.1
theorem Nm.DL:∀{n:Nat} {b:BS} {k:Nat},Nm b.a->b.AO.length<=k->BQ b (m+n*(4*(k+n)+10))->Nm (BS.DL n b nm).a
 |0,b,k,h,hk,r=>h
 |n+1,b,k,h,hk,r=>by
  have e:(n+1)*(4*(k+(n+1))+10)=n*(4*(k+1+n)+10)+(4*(k+(n+1))+10):=by rw[BB,Ey,show k+(n+1)=k+1+n by omega]
  rw[e] at r;have h1:=Nn (m:=m+n*(4*(k+1+n)+10)) (r.le (by omega)) nm;have h2:=h.round (m:=m+n*(4*(k+1+n)+10)) (nm:=nm) (r.le (by omega));unfold BS.DL;simp only
  split;·exact Nm.DL (n:=n) (k:=k+1) h2 (by omega) h1.1
  .exact h2
theorem aCC(h:Nm b.a)(sz:Sz b (j+1))(hq:uO q):Nm (TK b q).1.a:=doB_case (P:=λr=>Nm r.1.a)
 (h.L7 hq.name)
 (h.L7 hq.name)
 (Nm.L7 (b:=b) (sp:=1) (l:=q.Ax) h hq.name)
 (h.Ku)
 (by
  dsimp only;unfold BS.JY;split;·exact h.Eo
  .exact h.Eo)
 (Nm.L7 (b:=b) (sp:=1) (l:=q.Ax) h hq.name)
 (by
  dsimp only;unfold BS.IL;split;·exact h
  .exact h)
 (Nm.Iv h λe he=>(sz.rm.Dk e (Bv he)).1)
 (by
  dsimp only;unfold BS.C0;split
  .split;·exact h
   .exact h
  .exact h)
 (by
  dsimp only;unfold BS.FB;split
  .unfold BS.Qd;split;·exact h
   .exact h
  .exact Nm.DL (n:=8) (k:=b.AO.length) (m:=5000000*j) h (Ac _) (sz.rm.le (by have:=sz.AO;omega)))
 h
 (h.GB)
 (by
  dsimp only;unfold BS.C5;split;·exact h
  .exact h)
 h
 h
 h
 h
 (by
  dsimp only;unfold BS.Qd;split;·exact h
  .exact h)
 h
 h
 h
 h
 h
 (h.mk hq.name)
 h
theorem qC(q:Bool):Nm (C4 q).a:=λx=>by rw[Np];split<;>simp
theorem db(s:Ek):Nm s.b.a:=by
 have h3:Nm (Ih s.AZ s.name s.Ax s.Cq).a:=((qC s.Cq).mk (nm:=Da) (by decide)).DZ;have h4:Nm (KB s.AZ s.name s.Ax s.Cq).a:=by unfold KB;split<;>exact h3
 unfold Ek.b Sv;split
 .split;·exact h4
  .exact h4
 .exact qC _
end
section
variable{h h':Ad}{bi a:Nat}{o c t:Aa}{G G' F:Nat->Prop}{b:BS}{x:Int}{m:Nat}
variable{nm:Ap}{av:Aa}{l:List AU}{r:List Aa}{sp p:Int}
theorem aCD(ok:DG b)(y:Int):(if b.a.has y then(b.a.nd y).Cy else b.Cy)=if(b.a.nd y).Cy≠0 then(b.a.nd y).Cy else b.Cy:=by
 by_cases hy:b.a.has y;·have:=(ok.ok.Cy y hy).1.1;rw[if_pos hy,if_pos (by omega)]
 .rw[if_neg hy,GI hy,if_neg (by simp)]
theorem sg(w:RX h bi a o c t G b)(ok:DG b)(rm:BQ b (m+3))(hnm:Nm b.a)(hr:Nj nm av r)(hv:Bw l av)(hl:DA l)(hn:nm.length<=1000)(p sp:Int):
  ∃h' G',BI cx 102 [Pt bi 0,.agg r,I sp,I p] h (.agg (b.FA nm l sp).row) h'/\RX h' bi a o c t G' (b.D8 nm l sp p)/\De h (own bi G) h' (own bi G'):=by
 obtain⟨c0,c2,c3,c4,c5,c6,c7,c9,Tv,U7,rfl⟩:=hr;have r0:∀{Q:Post} {h:Ad} {kk:Aa->IT},W cx (.Bc 186 [I sp] kk) Q h↔W cx (kk (.bool (decide (BS.Hn sp)))) Q h:=(pY _).Bc rfl rfl;by_cases hs:BS.Hn sp;rotate_left
 .refine⟨h,G,?_,by unfold BS.D8;rw[if_neg hs];exact w,.refl⟩;have e:b.FA nm l sp=Item.zero:=by unfold BS.FA;rw[if_neg hs]
  rw[e,L2,Ab,mH,aAD];simp only[AB,↓reduceIte,AK,Bi,r0,AA hs]
 obtain⟨u,r1,hu⟩:=f180 (h:=h) hv (λy hy=>(hl.2 y hy).1) hl.1 sp;have hd:=Sg ok (p:=p);have sp2:∀y∈l.map (CM sp),BS.Hn y.AZ:=by intro y hy;obtain⟨z,_,rfl⟩:=Bk.1 hy;exact iP
 have hlen:(l.map (CM sp)).length<=1000000000:=by rw[Ai];have:=hl.1;omega
 obtain⟨h',G',r3,w3,x3⟩:=w.step (A':=b.a.elem (b.Io p) sp (BS.Ip sp nm) (l.map (CM sp))) (R:=λh'=>BI cx 165 [Pt a 0,I (b.Io p),I sp,.str (BS.Ip sp nm),u] h (.tuple [I (b.a.len+1),I 0]) h') λn i ps wa=>by obtain⟨h',n',i',Iz,r,wp,xp⟩:=xh (nm:=BS.Ip sp nm) wa (rm.len (by omega)) hd.1 hd.2 hs hu hlen sp2;exact⟨h',n',i',Iz,r,wp,xp⟩
 have NF:=VC (sp:=sp) (nm:=nm);have r4:=aFY (h:=h') hu (λy hy=>by obtain⟨z,hz,rfl⟩:=Bk.1 hy;rw[XN];have:=(hl.2 z hz).2;have:AS=140737488355328:=rfl;omega) (by omega) sp (BS.Ip sp nm) (by omega);have em:Aw (.Bs [I 0,I 0,S [],ff] [(0,1),(1,1),(2,1),(3,1)]) [I (b.a.len+1),I sp,.str (BS.Ip sp nm),.bool (EH sp (BS.Ip sp nm) (l.map (CM sp)))]=some (.agg (b.FA nm l sp).row):=by rw[XE];unfold BS.FA;rw[if_pos hs]
 have r5:=xj w hnm p;refine⟨h',G',?_,by unfold BS.D8;rw[if_pos hs];exact w3,x3⟩;have XZ:=λ(y:Item)=>@Item.Co y;obtain⟨n,i,ps,wa,_⟩:=w.w;have key:∀(Q:Post) (kk:EK->List Aa->IT) (p':Int),p'=(if Ra [A5] b.a p then(b.a.nd p).cont else p)->(if b.a.has p' then(b.a.nd p').Cy else b.Cy)=b.Io p:=by
  intro Q kk p' e;rw[aCD ok];unfold BS.Io;by_cases hT:Ra [A5] b.a p;·rw[if_pos hT] at e;subst e;rw[if_pos ((Ki ok.ok p).2 hT)]
  .rw[if_neg hT] at e;subst e;rw[if_neg (λh=>hT ((Ki ok.ok p').1 h))]
 have key:=key (λ_ _ _=>True) (λ_ _=> .fail);rw[Ab,mH,aAD];by_cases hT:Ra [A5] b.a p
 .have hh:b.a.has p:=by
   by_cases hp:b.a.has p;·exact hp
   .have:=hT.1;rw[GI hp] at this;simp at this
  have r6:=qA w (b.a.nd p).cont;rw[key _ (if_pos hT).symm] at r6;rw[Az hT] at r5;by_cases h2:sp=2
  .have e:BS.Ip sp nm=Ca nm HX:=by unfold BS.Ip;rw[if_pos h2]
   rw[e] at r3 r4 em;simp only[AB,↓reduceIte,AK,Bi,EB,r0,Az hs,r1.call,AW h2,(aFW nm).Bc rfl rfl,AP,r5.call,w.l0,wa.nodes,wa.addr hh,wa.xd hh,r6.call,By,r3.call,r4.call,em,XZ]
  .have e:BS.Ip sp nm=nm:=by unfold BS.Ip;rw[if_neg h2]
   rw[e] at r3 r4 em;simp only[AB,↓reduceIte,AK,Bi,EB,r0,Az hs,r1.call,h2,AP,r5.call,w.l0,wa.nodes,wa.addr hh,wa.xd hh,r6.call,By,r3.call,r4.call,em,XZ]
 .have r6:=qA w p;rw[key _ (if_neg hT).symm] at r6;rw[AA hT] at r5;by_cases h2:sp=2
  .have e:BS.Ip sp nm=Ca nm HX:=by unfold BS.Ip;rw[if_pos h2]
   rw[e] at r3 r4 em;simp only[AB,↓reduceIte,AK,Bi,EB,r0,Az hs,r1.call,AW h2,(aFW nm).Bc rfl rfl,AP,r5.call,w.l0,r6.call,By,r3.call,r4.call,em,XZ]
  .have e:BS.Ip sp nm=nm:=by unfold BS.Ip;rw[if_neg h2]
   rw[e] at r3 r4 em;simp only[AB,↓reduceIte,AK,Bi,EB,r0,Az hs,r1.call,h2,AP,r5.call,w.l0,r6.call,By,r3.call,r4.call,em,XZ]
end
end Go.Am
end
