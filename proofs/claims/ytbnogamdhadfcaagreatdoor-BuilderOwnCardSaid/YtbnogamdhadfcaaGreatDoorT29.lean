/- Lemmas -/
import Derived.Test.YtbnogamdhadfcaaGreatDoorT28
set_option linter.unusedVariables false
set_option linter.unusedSimpArgs false
section
namespace Go.Am
open Go
set_option maxRecDepth 100000
theorem My:∀l:List Int,(l.map B6).flatten=l.map (Aa.int .i64)
 |[]=>rfl
 |x::l=>by simp[B6,My l]
def uC(q:Bool):Ar:={n:=[{kind:=1,Cz:=1,Cr:=q}],i:=[0]}
def C7(q:Bool):BS:={a:=uC q,Cz:=1,AR:=[],A3:=[],mode:=1,R6:=0,tm:=[],head:=0,Mr:=0,KL:=false,ctx:=Item.zero,fs:=true,Eb:=false,YP:=[],skip:=false,sw:=0,stop:=false}
noncomputable def Im(sp:Int)(nm:As)(l:List AU)(q:Bool):BS:=
 {(C7 q).Ee Dd [] 1 1 with a:=((C7 q).Ee Dd [] 1 1).a.D3 ((C7 q).FE Dd [] 1).node 1 0,AR:=((C7 q).Ee Dd [] 1 1).AR++[(C7 q).FE Dd [] 1],KL:=true,ctx:=⟨0,sp,nm,EJ sp nm l⟩}
noncomputable def KD(sp:Int)(nm:As)(l:List AU)(q:Bool):BS:=if Bq [A6] (Im sp nm l q).ctx then{Im sp nm l q with tm:=[18]} else Im sp nm l q
noncomputable def So(sp:Int)(nm:As)(l:List AU)(q f:Bool):BS:=if f then{(KD sp nm l q).HP with Mr:= -1} else(KD sp nm l q).HP
structure EK where
 KL:Bool
 A0:Int
 name:As
 Ay:List AU
 Cr:Bool
 Mr:Bool
noncomputable def EK.b(s:EK):BS:=if s.KL then So s.A0 s.name s.Ay s.Cr s.Mr else C7 s.Cr
def Ou(s:EK)(av:Aa):List Aa:=[.bool s.KL,I s.A0,.str s.name,av,.bool s.Cr,.bool s.Mr]
theorem aCl(q:Bool):Ew (uC q) 0:=by
 have h0:Ew (⟨[],[]⟩:Ar) 0:=by
  have hn:∀h,¬(⟨[],[]⟩:Ar).has h:=λh hh=>by have h1:=hh.1;have h2:=hh.2;simp at h2;omega
  exact⟨rfl,λh hh=>absurd hh (hn h),λh hh=>absurd hh (hn h),λh hh=>absurd hh (hn h),λh hh=>absurd hh (hn h),λh hh=>absurd hh (hn h),λh hh=>absurd hh (hn h),λh hh=>absurd hh (hn h),λh hh=>absurd hh (hn h),λh hh=>absurd hh (hn h),⟨λ_=>0,λh hh=>absurd hh (hn h)⟩⟩
 have hx:tZ {kind:=1,Cz:=1,Cr:=q}:=by constructor<;>simp[Cg,GD]
 exact Vn h0 hx (.inl ⟨rfl,rfl⟩) rfl rfl rfl rfl (λh=>absurd h.1 (show¬(1:Int)=4 by decide))
theorem Nf(q:Bool):DG (C7 q):=by refine⟨aCl q,⟨⟨HW 1,HW 1⟩,rfl⟩,λi hi=>(nomatch hi),List.nodup_nil,λe he=>(nomatch he),List.nodup_nil⟩
theorem Ng{q:Bool}(x:Int):(C7 q).a.nd x=if x=1 then{kind:=1,Cz:=1,Cr:=q} else{}:=by
 unfold Ar.nd;by_cases h:x=1;·subst h;rfl
 .rw[if_neg h,if_neg];intro hh;have h1:=hh.1;have h2:=hh.2;simp[C7,uC] at h2;omega
theorem Nh(q:Bool):Sz (C7 q) 101:=by
 refine⟨⟨by simp[C7,uC],λx=>?_,λx=>?_,by simp[C7],by simp[C7],by simp[C7],λe he=>(nomatch he),λi hi=>(nomatch hi)⟩,by simp[C7],by simp[C7]⟩;·rw[Ng];split<;>simp
 .rw[Ng];split<;>simp
section
variable{h h':Ag}{bi a:Nat}{o c t:Aa}{G G' F:Nat->Prop}{b:BS}{x:Int}{m j:Nat}{q:dG}
variable{nm:As}{av:Aa}{l:List AU}{r:List Aa}{sp p:Int}
theorem aMc(h:Ag)(q:Bool):∃h1 h',BI cx 12 [] h (Pt h.length 0) h1/\BI cx 13 [Pt h.length 0,.bool q] h1 (I 1) h'/\PA h' h.length (h.length+1) none [⟨{kind:=1,Cz:=1,Cr:=q},.slnil,.slnil,rfl⟩] (uC q)/\h'=h++[.cells [.Ck (h.length+1) 0 1 13,.map none],.cells [I 1,I 0,.slnil,I 1,I 0,S [],.slnil,S [],S [],S [],.bool q,I 0,I 0]]:=by
 have ZJ:AT=140737488355328:=rfl;have g1:∀u:Ag,Fl u 13 168 .slnil (.sl 13 [[I 1,I 0,.slnil,I 0,I 0,S [],.slnil,S [],S [],S [],.bool q,I 0,I 0]])=some (u++[.cells [I 1,I 0,.slnil,I 0,I 0,S [],.slnil,S [],S [],S [],.bool q,I 0,I 0]],.Ck u.length 0 1 13):=λu=>rfl;obtain⟨H1,hH1⟩:∃H1,H1=h++[C6.cells [.slnil,.map none]]:=⟨_,rfl⟩;have c1:H1[h.length]?=some (.cells [.slnil,.map none]):=by rw[hH1];simp
 have TZ:H1.length=h.length+1:=by rw[hH1];simp
 have g2:=g1 H1;rw[TZ] at g2;have t1:At H1 h.length 0 .slnil:=⟨_,c1,rfl⟩;have c2:(H1++[C6.cells [I 1,I 0,.slnil,I 0,I 0,S [],.slnil,S [],S [],S [],.bool q,I 0,I 0]])[h.length]?=some (.cells [.slnil,.map none]):=(Ad (by omega)).trans c1;have n2:(H1++[C6.cells [I 1,I 0,.slnil,I 0,I 0,S [],.slnil,S [],S [],S [],.bool q,I 0,I 0]])[h.length+1]?=some (.cells [I 1,I 0,.slnil,I 0,I 0,S [],.slnil,S [],S [],S [],.bool q,I 0,I 0]):=by rw[<-TZ];simp
 have Xr:(H1++[C6.cells [I 1,I 0,.slnil,I 0,I 0,S [],.slnil,S [],S [],S [],.bool q,I 0,I 0]]).length=h.length+2:=by rw[Ao,TZ];rfl
 have e12:H1++[C6.cells [I 1,I 0,.slnil,I 0,I 0,S [],.slnil,S [],S [],S [],.bool q,I 0,I 0]]=h++[.cells [.slnil,.map none],.cells [I 1,I 0,.slnil,I 0,I 0,S [],.slnil,S [],S [],S [],.bool q,I 0,I 0]]:=by rw[hH1,Ax];rfl
 generalize H1++[C6.cells [I 1,I 0,.slnil,I 0,I 0,S [],.slnil,S [],S [],S [],.bool q,I 0,I 0]]=H2 at*;have t2:At H2 h.length 0 .slnil:=⟨_,c2,rfl⟩;have s2:=t2.store (u:= .Ck (h.length+1) 0 1 13) rfl;have c3:=Hk (k:=0) (v:= .Ck (h.length+1) 0 1 13) c2;have n3:(put H2 h.length 0 (.Ck (h.length+1) 0 1 13))[h.length+1]?=_:=(B4 (by omega)).trans n2;have e3:put H2 h.length 0 (.Ck (h.length+1) 0 1 13)=h++[.cells [.Ck (h.length+1) 0 1 13,.map none],.cells [I 1,I 0,.slnil,I 0,I 0,S [],.slnil,S [],S [],S [],.bool q,I 0,I 0]]:=by rw[Hp c2,e12,BP _ _ (Ac _),CY];rfl
 generalize put H2 h.length 0 (.Ck (h.length+1) 0 1 13)=H3 at*;have l3:A9 H3 none (Pt h.length 0)=some (.Ck (h.length+1) 0 1 13):=At.load ⟨_,c3,rfl⟩;have e4:Aw (.EE 13) [.Ck (h.length+1) 0 1 13,I 0]=some (.ptr (some (h.length+1,0))):=DO (k:= .i64) (i:=0) (by decide);have t3:At H3 (h.length+1) 3 (I 0):=⟨_,n3,rfl⟩;have s3:=t3.store (u:=I 1) rfl;have c4:(put H3 (h.length+1) 3 (I 1))[h.length]?=_:=(B4 (by omega)).trans c3;have n4:=Hk (k:=3) (v:=I 1) n3;have e5:put H3 (h.length+1) 3 (I 1)=h++[.cells [.Ck (h.length+1) 0 1 13,.map none],.cells [I 1,I 0,.slnil,I 1,I 0,S [],.slnil,S [],S [],S [],.bool q,I 0,I 0]]:=by rw[Hp n3,e3,BP _ _ (by omega),Nat.add_sub_cancel_left];rfl
 refine⟨H1,put H3 (h.length+1) 3 (I 1),?_,?_,⟨rfl,rfl,c4,n4,?_,?_,.inl ⟨rfl,λk=>?_⟩⟩,e5⟩;·rw[Ab,yE,t12];simp only[AA,↓reduceIte,AK,Bi,hH1]
 .have r1:BI cx 42 [Pt h.length 0,.agg [I 1,I 0,.slnil,I 0,I 0,S [],.slnil,S [],S [],S [],.bool q,I 0,I 0]] H1 (I 1) H3:=by rw[Ab,iN,t42];simp only[AA,Nat.reduceLeDiff,↓reduceIte,AK,Bi,t1.load,show Aw (.By 13) [.agg [I 1,I 0,.slnil,I 0,I 0,S [],.slnil,S [],S [],S [],.bool q,I 0,I 0]]=some (.sl 13 [[I 1,I 0,.slnil,I 0,I 0,S [],.slnil,S [],S [],S [],.bool q,I 0,I 0]]) from rfl,g2,s2,l3,show Aw (.len false) [.Ck (h.length+1) 0 1 13]=some (I 1) from rfl]
  have r2:BI cx 43 [Pt h.length 0,I 1] H3 (.ptr (some (h.length+1,0))) H3:=by rw[Ab,iO,t43];simp only[AA,Bi,l3,show Aw (.int .sub) [I 1,I 1]=some (I 0) from rfl,e4]
  rw[Ab,iL,t13];simp only[AA,Nat.reduceLeDiff,↓reduceIte,AK,Bi,r1.call,r2.call,s3]
 .intro p hp;rw[Fk] at hp;subst hp;exact .inl ⟨rfl,rfl⟩
 .simp[Fq,GW]
 .unfold Ar.inr;split
  .rename_i hh;have h1:=hh.1;have h2:=hh.2;simp[uC] at h2;have:k=1:=by omega
   subst this;rfl
  .rfl
theorem aHp(h:Ag)(q:Bool):∃h1 h2 h' bi G,BI cx 12 [] h (Pt h.length 0) h1/\BI cx 13 [Pt h.length 0,.bool q] h1 (I 1) h2/\BI cx 15 [Pt h.length 0,I 1] h2 (Pt bi 0) h'/\BX h' bi h.length .slnil .slnil .slnil G (C7 q)/\Dh h (λ_=>False) h' (own bi G):=by
 obtain⟨h1,h2,r1,r2,wa,eh⟩:=aMc h q;obtain⟨r,t,r3,K,V,rfl,hK,hV,_⟩:=aGj (x:=1) wa ((Nh q).rm.Wm) ((Nh q).rm.Wm.AZ (Nf q).ok 1);have hx:(uC q).has 1:=⟨HW 1,HW 1⟩;have dh:(uC q).nd 1={kind:=1,Cz:=1,Cr:=q}:=(Ng (q:=q) 1).trans (if_pos rfl);rw[if_pos hx,dh] at r3;have wt:PA (h2++t) _ _ _ _ _:=wa.Cv λi hi=>Ad (wa.lt i hi);refine⟨h1,h2,h2++t++[.cells (HS h.length (C7 q) .slnil .slnil .slnil)],(h2++t).length,λi=>i∈Fq h.length (h.length+1) none [⟨{kind:=1,Cz:=1,Cr:=q},.slnil,.slnil,rfl⟩],r1,r2,?_,⟨by simp,.inr ⟨rfl,rfl⟩,.inr ⟨rfl,rfl⟩,?_,?_⟩,?_⟩;·rw[Ab,yF,t15];simp only[AA,Nat.reduceLeDiff,↓reduceIte,AK,Bi,r3.call,aaS];exact⟨λh=>absurd rfl h,λ_=>⟨λh=>absurd rfl h,λ_=>rfl⟩⟩
 .exact⟨_,_,_,wt.Cv λi hi=>Ad (wt.lt i hi),λi=>Iff.rfl⟩
 .intro hm;exact absurd (wt.lt _ hm) (Dg _)
 .have DY:h.length<=h2.length:=by rw[eh];simp
  refine⟨by simp;omega,λi hi _=>?_,λi hi=> .inr ?_⟩;·rw[Ax,Ad (by omega),eh,Ad hi]
  .rcases hi with rfl|hi
   .simp;omega
   .simp[Fq,GW] at hi;omega
theorem bq(sp:Int)(nm:As)(l:List AU)(q:Bool):DG (Im sp nm l q)/\Sz (Im sp nm l q) 100:=by
 refine⟨?_,?_⟩
 .obtain⟨TD,f,le1⟩:=Ms (nm:=Dd) (at_:=[]) (p:=1) (Nf q) IV;have bc:=TD.Jq (M6 (n:=((C7 q).FE Dd [] 1).node) (p:=1) (b:=0) TD.ok) Ib;have l2:Le ((C7 q).Ee Dd [] 1 1).a (((C7 q).Ee Dd [] 1 1).a.D3 ((C7 q).FE Dd [] 1).node 1 0):=Ib;have ho:((C7 q).Ee Dd [] 1 1).AR=[]:=by unfold BS.Ee;rw[if_pos IV];rfl
  have xa:=bc.S_ (i:=(C7 q).FE Dd [] 1) (k:=0) ⟨l2.has _ f.has,by rw[l2.kind _ f.has];exact f.kind,by rw[l2.A0 _ f.has];exact f.A0,by rw[l2.name _ f.has];exact f.name⟩ (by simp only[ho];simp);exact xa.of_eq rfl rfl (by unfold Im;simp only[ho];rfl) rfl
 .have sz:=Nh q;have e:((C7 q).Ee Dd [] 1 1).AR=[]/\((C7 q).Ee Dd [] 1 1).A3=[]:=by unfold BS.Ee;rw[if_pos IV];exact⟨rfl,rfl⟩
  have r1:=Ic (m:=5000000*100+1) (nm:=Dd) (l:=[]) (sp:=1) (p:=1) (sz.rm.le (by omega)) ⟨by decide,λa ha=>(nomatch ha)⟩;have r2:=r1.Jq (I4 (x:=((C7 q).FE Dd [] 1).node) (p:=1) (bf:=0));have r3:=r2.vi (i:=(C7 q).FE Dd [] 1) (l':=((C7 q).Ee Dd [] 1 1).AR++[(C7 q).FE Dd [] 1]) (by simp) (λj hj=>by simpa using hj) (Mv (by decide));exact⟨⟨r3.n,r3.at_,r3.data,r3.AR,r3.A3,r3.tm,r3.Dj,r3.Wl⟩,by unfold Im;simp only[e.1];show 1+1200*100<=125000;decide,by unfold Im;simp only[e.2];decide⟩
theorem V5(sp:Int)(nm:As)(l:List AU)(q:Bool):DG (KD sp nm l q)/\Sz (KD sp nm l q) 100:=by
 obtain⟨xa,sz3⟩:=bq sp nm l q;unfold KD;split;·have r:=sz3.rm;exact⟨xa.of_eq rfl rfl rfl rfl,⟨⟨r.n,r.at_,r.data,r.AR,r.A3,by simp,r.Dj,r.Wl⟩,sz3.AR,sz3.A3⟩⟩
 .exact⟨xa,sz3⟩
theorem sd(sp:Int)(nm:As)(l:List AU)(q f:Bool):DG (So sp nm l q f)/\Sz (So sp nm l q f) 100:=by
 obtain⟨uA,sg⟩:=V5 sp nm l q;have r5:BR (KD sp nm l q).HP (5000000*100):=sg.rm.mode;unfold So;split;·exact⟨(Q7 uA).of_eq rfl rfl rfl rfl,⟨⟨r5.n,r5.at_,r5.data,r5.AR,r5.A3,r5.tm,r5.Dj,r5.Wl⟩,sg.AR,sg.A3⟩⟩
 .exact⟨Q7 uA,⟨r5,sg.AR,sg.A3⟩⟩
theorem BX.br(w:BX h bi a o c t G b)(i:Item):∃h',Cd h 4 (Pt bi 10) (.agg i.row)=some h'/\BX h' bi a o c t G {b with ctx:=i}/\Dh h (own bi G) h' (own bi G):=by refine⟨h.set bi (.cells (HS a {b with ctx:=i} o c t)),?_,⟨AG w.lt,w.o,w.t,w.w.Cv λj hj=>Af λe=>w.nb (by rw[e];exact hj),w.nb⟩,⟨by rw[Be];exact Ac _,λj _ hn=>Af λe=>hn (.inl e.symm),λ_ h=> .inl h⟩⟩;simp only[Cd,w.hb];rfl
theorem aMd(h:Ag)(sp:Int)(nm:As)(hv:Bz l av)(hl:DH l)(q f q':Bool):∃h1 h2 h' bi o t G,BI cx 12 [] h (Pt h.length 0) h1/\BI cx 13 [Pt h.length 0,.bool q] h1 (I 1) h2/\BI cx 16 [Pt h.length 0,I 1,.agg [I sp,.str nm,av,.bool q',.bool f]] h2 (Pt bi 0) h'/\BX h' bi h.length o .slnil t G (So sp nm l q f)/\Dh h (λ_=>False) h' (own bi G):=by
 obtain⟨h1,h2,h3,bi,G,r1,r2,r3,w,x⟩:=aHp h q;have hr:Na Dd .slnil [I 2,.str Dd,ff,S [],ff,S [],ff,ff,.slnil,ff,S [],.int .i32 0]:=⟨I 2,ff,S [],ff,S [],ff,ff,ff,S [],.int .i32 0,rfl⟩;obtain⟨h4,G4,r4,w4,x4⟩:=bb (m:=1000) w (Nf q) ((Nh q).rm.le (by omega)) hr (l:=[]) (.inr ⟨rfl,rfl⟩) ⟨by decide,λa ha=>(nomatch ha)⟩ (by decide) 1 1;obtain⟨uA,f4,le4⟩:=Ms (nm:=Dd) (at_:=[]) (p:=1) (Nf q) IV;have rm4:=Ic (m:=1000) (nm:=Dd) (l:=[]) (sp:=1) (p:=1) ((Nh q).rm.le (by omega)) ⟨by decide,λa ha=>(nomatch ha)⟩;obtain⟨h5,G5,r5,w5,x5⟩:=cT (x:=((C7 q).FE Dd [] 1).node) (p:=1) (bf:=0) w4 uA rm4;have ho:((C7 q).Ee Dd [] 1 1).AR=[]:=by unfold BS.Ee;rw[if_pos IV];rfl
 obtain⟨u6,r6,hu6⟩:=f95 w5.sO (by simp only[ho];decide) ((C7 q).FE Dd [] 1);have w6:=w5.Ig hu6;have w7:BX (put (put h5 bi 2 u6) bi 9 tt) bi h.length u6 .slnil .slnil G5 _:=w6.put (k:=9) (v:=tt) (b':={{{(C7 q).Ee Dd [] 1 1 with a:=((C7 q).Ee Dd [] 1 1).a.D3 ((C7 q).FE Dd [] 1).node 1 0} with AR:=((C7 q).Ee Dd [] 1 1).AR++[(C7 q).FE Dd [] 1]} with KL:=true}) rfl rfl hu6 w6.t;have s7:Cd (put h5 bi 2 u6) 1 (Pt bi 9) tt=some (put (put h5 bi 2 u6) bi 9 tt):=w6.st (k:=9) (v:=tt) (v0:= .bool ((C7 q).Ee Dd [] 1 1).KL) rfl rfl;have r8:BI cx 49 [I sp,.str nm,av] (put (put h5 bi 2 u6) bi 9 tt) (.bool (EJ sp nm l)) (put (put h5 bi 2 u6) bi 9 tt):=f96 hv (λa ha=>by have:=(hl.2 a ha).2;have:AT=140737488355328:=rfl;omega) (by have:=hl.1;omega) sp nm _;obtain⟨h8,s8,w8,x8⟩:=w7.br ⟨0,sp,nm,EJ sp nm l⟩;have xd:BX h8 bi h.length u6 .slnil .slnil G5 (Im sp nm l q):=w8;have xb:Dh h (λ_=>False) h8 (own bi G5):=((((x.trans x4).trans x5).trans Bg).trans Bg).trans x8;clear w8;have l10:=xd.qv;have aCm:(Im sp nm l q).ctx=⟨0,sp,nm,EJ sp nm l⟩:=rfl;obtain⟨aMe,sg⟩:=V5 sp nm l q;have r9:=jD (ws:=[A6]) CS (by decide) (Im sp nm l q).ctx h8;have key:∃h9 t9,BX h9 bi h.length u6 .slnil t9 G5 (KD sp nm l q)/\Dh h8 (own bi G5) h9 (own bi G5)/\(Bq [A6] (Im sp nm l q).ctx=true->Cd h8 1 (Pt bi 6) (.sl 1 [[I 18]])=some h9)/\(Bq [A6] (Im sp nm l q).ctx=false->h9=h8):=by
  by_cases hT:Bq [A6] (Im sp nm l q).ctx=true;·have hu:Df [18] (.sl 1 [[I 18]]):= .mk;refine⟨put h8 bi 6 (.sl 1 [[I 18]]),.sl 1 [[I 18]],?_,Bg,λ_=>xd.st (k:=6) (v0:= .slnil) rfl rfl,λh=>absurd hT (by rw[h];decide)⟩;unfold KD;rw[if_pos hT];exact xd.jG hu
  .refine⟨h8,.slnil,?_,.refl,λh=>absurd h hT,λ_=>rfl⟩;unfold KD;rw[if_neg hT];exact xd
 obtain⟨h9,t9,w9,x9,k1,k2⟩:=key;obtain⟨VM,pK,Sm,pM⟩:=qw w9 sg.rm;have em:Aw (.By 1) [I 18]=some (.sl 1 [[I 18]]):=rfl;have xx:Dh h (λ_=>False) VM (own bi G5):=(xb.trans x9).trans pM;have hir:((C7 q).FE Dd [] 1).row=[I ((C7 q).FE Dd [] 1).node,I ((C7 q).FE Dd [] 1).A0,.str ((C7 q).FE Dd [] 1).name,.bool ((C7 q).FE Dd [] 1).Nt]:=rfl;generalize(C7 q).FE Dd [] 1=it at*;have bt:Cd (put (put h5 bi 2 u6) bi 9 tt) 4 (Pt bi 10) (.agg [I 0,I sp,.str nm,.bool (EJ sp nm l)])=some h8:=s8;have sP:Aw (.By 1) [S aSC]=some (.sl 1 ([A6].map CI)):=cY;cases hT:Bq [A6] (Im sp nm l q).ctx with
 |true=>
  rw[hT] at r9;have xe:=k1 hT;cases f with
  |true=>
   refine⟨h1,h2,put VM bi 8 (I (-1)),bi,u6,t9,G5,r1,r2,?_,?_,xx.trans Bg⟩;·rw[Ab,Vx,t16];simp only[AA,Nat.reduceLeDiff,↓reduceIte,AK,Bi,EC,r3.call,r4.call,r5.call,r6.call,s7,r8.call,bt,l10,sP,r9.call,em,xe,pK.call,Sm.st (k:=8) (v:=I (-1)) rfl rfl]
   .unfold So;rw[if_pos rfl];exact Sm.put rfl rfl Sm.o Sm.t
  |false=>refine⟨h1,h2,VM,bi,u6,t9,G5,r1,r2,?_,Sm,xx⟩;rw[Ab,Vx,t16];simp only[AA,Nat.reduceLeDiff,↓reduceIte,AK,Bi,EC,r3.call,r4.call,r5.call,r6.call,s7,r8.call,bt,l10,sP,r9.call,em,xe,pK.call]
 |false=>
  rw[hT] at r9;have xf:=k2 hT;subst xf;cases f with
  |true=>
   refine⟨h1,h2,put VM bi 8 (I (-1)),bi,u6,t9,G5,r1,r2,?_,?_,xx.trans Bg⟩;·rw[Ab,Vx,t16];simp only[AA,Nat.reduceLeDiff,↓reduceIte,AK,Bi,EC,r3.call,r4.call,r5.call,r6.call,s7,r8.call,bt,l10,sP,r9.call,em,pK.call,Sm.st (k:=8) (v:=I (-1)) rfl rfl]
   .unfold So;rw[if_pos rfl];exact Sm.put rfl rfl Sm.o Sm.t
  |false=>refine⟨h1,h2,VM,bi,u6,t9,G5,r1,r2,?_,Sm,xx⟩;rw[Ab,Vx,t16];simp only[AA,Nat.reduceLeDiff,↓reduceIte,AK,Bi,EC,r3.call,r4.call,r5.call,r6.call,s7,r8.call,bt,l10,sP,r9.call,em,pK.call]
theorem aMf(h:Ag)(s:EK)(hv:Bz s.Ay av)(hl:DH s.Ay):∃h' bi a o c t G,BI cx 8 [.agg (Ou s av)] h (Pt bi 0) h'/\BX h' bi a o c t G s.b/\BN s.b.A3 c/\Dh h (λ_=>False) h' (own bi G):=by
 have fQ:(Im s.A0 s.name s.Ay s.Cr).A3=[]:=by unfold Im;simp only;unfold BS.Ee;rw[if_pos IV];rfl
 cases hf:s.KL with
 |true=>
  obtain⟨h1,h2,h',bi,o,t,G,r1,r2,r3,w,x⟩:=aMd h s.A0 s.name hv hl s.Cr s.Mr s.Cr;refine⟨h',bi,h.length,o,.slnil,t,G,?_,by unfold EK.b;rw[if_pos hf];exact w,?_,x⟩;·rw[Ab,yD,t8,Ou,hf];simp only[AA,r1.call,r2.call,r3.call]
  .have e:s.b.A3=[]:=by unfold EK.b So KD;rw[if_pos hf];split<;>split<;>exact fQ
   rw[e];exact⟨[],rfl,.inr ⟨rfl,rfl⟩⟩
 |false=>
  obtain⟨h1,h2,h',bi,G,r1,r2,r3,w,x⟩:=aHp h s.Cr;have e:s.b=C7 s.Cr:=by unfold EK.b;rw[if_neg (by rw[hf];decide)]
  refine⟨h',bi,h.length,.slnil,.slnil,.slnil,G,?_,by rw[e];exact w,by rw[e];exact⟨[],rfl,.inr ⟨rfl,rfl⟩⟩,x⟩;rw[Ab,yD,t8,Ou,hf];simp only[AA,r1.call,r2.call,r3.call]
theorem EK.ok(s:EK):DG s.b/\Sz s.b 100:=by
 unfold EK.b;split;·exact sd _ _ _ _ _
 .have h:=Nh s.Cr;exact⟨Nf _,⟨h.rm.le (by omega),by have:=h.AR;omega,by have:=h.A3;omega⟩⟩
end
def KE(h:Ag)(lo:Nat)(v:Aa)(l:List Int):Prop:=(v= .slnil/\l=[])\/∃id,lo<=id/\v= .Ck id 0 l.length 1/\h[id]?=some (.cells (l.map (Aa.int .i64)))
def Lp(h:Ag)(lo:Nat)(v:Aa)(l:List Ce):Prop:=(v= .slnil/\l=[])\/∃id,∃fs:List B0,lo<=id/\v= .Ck id 0 fs.length 3/\h[id]?=some (.cells (fs.map B0.row).flatten)/\fs.map (·.c)=l
section
variable{h h':Ag}{lo lo':Nat}{v:Aa}
theorem KE.cells{l:List Int}(hv:KE h lo v l):v.cells=[v]:=by rcases hv with⟨rfl,_⟩|⟨id,_,rfl,_⟩<;>rfl
theorem Lp.cells{l:List Ce}(hv:Lp h lo v l):v.cells=[v]:=by rcases hv with⟨rfl,_⟩|⟨id,fs,_,rfl,_⟩<;>rfl
theorem KE.Cv{l:List Int}(hv:KE h lo v l)(hf:∀i,lo<=i->i<h.length->h'[i]?=h[i]?):KE h' lo v l:=by
 rcases hv with hv|⟨id,h1,h2,h3⟩
 .exact .inl hv
 .exact .inr ⟨id,h1,h2,by rw[hf id h1 (Ae.1 h3).1];exact h3⟩
theorem Lp.Cv{l:List Ce}(hv:Lp h lo v l)(hf:∀i,lo<=i->i<h.length->h'[i]?=h[i]?):Lp h' lo v l:=by
 rcases hv with hv|⟨id,fs,h1,h2,h3,h4⟩
 .exact .inl hv
 .exact .inr ⟨id,fs,h1,h2,by rw[hf id h1 (Ae.1 h3).1];exact h3,h4⟩
theorem Lp.low{l:List Ce}(hv:Lp h lo v l)(hl:lo'<=lo):Lp h lo' v l:=by
 rcases hv with hv|⟨id,fs,h1,h2⟩
 .exact .inl hv
 .exact .inr ⟨id,fs,by omega,h2⟩
theorem KE.Rc{l:List Int}(hv:KE h lo v l):Qd h v l:=by
 rcases hv with⟨rfl,rfl⟩|⟨id,_,rfl,hc⟩
 .exact⟨rfl,λk hk=>by simp at hk⟩
 .refine⟨rfl,λk hlt=>⟨Pt id k,by have:=DO (id:=id) (z:=1) (k:= .i64) hlt;rwa [I8] at this,?_⟩⟩;simp only[A9,hc,Dz];simp[hlt]
theorem bu{h u:Ag}{V:Aa}{L:List Int}(hV:KE (h++u) h.length V L)(hb:L.length<=1000000000)(x:Int):∃u' V',Fl (h++u) 1 8 V (.sl 1 [[I x]])=some (h++u',V')/\KE (h++u') h.length V' (L++[x]):=by
 have ZJ:AT=140737488355328:=rfl;rcases hV with⟨rfl,rfl⟩|⟨id,Ha,rfl,hc⟩
 .exact⟨u++[.cells [I x]],.Ck (h++u).length 0 1 1,by rw[<-Ax];rfl,.inr ⟨(h++u).length,by simp,rfl,by simp⟩⟩
 .have hr:∀r∈L.map B6,r.length=1:=Kd (f:=B6) (λ_=>rfl) L;have Km:(h++u)[id]?=some (.cells (L.map B6).flatten):=by rw[My];exact hc
  have hg:=IJ (b:=8) (Au:=L.map B6) (r2:=[[I x]]) (v:= .sl 1 [[I x]]) hr (by decide) Km .mk (by simp) (by rw[Ah];simp;omega);rw[Ah] at hg;have e:(h++u).set id .CH++[C6.cells (L.map B6++[[I x]]).flatten]=h++(u.set (id-h.length) .CH++[.cells ((L++[x]).map (Aa.int .i64))]):=by rw[BP _ _ Ha,Ax,Wo,My,BE];rfl
  rw[e] at hg;have Xr:(h++(u.set (id-h.length) C6.CH++[.cells ((L++[x]).map (Aa.int .i64))]))=(h++u.set (id-h.length) C6.CH)++[.cells ((L++[x]).map (Aa.int .i64))]:=by rw[Ax]
  have ZH:(h++u.set (id-h.length) C6.CH).length=(h++u).length:=by simp
  refine⟨_,_,hg,.inr ⟨(h++u).length,by simp,by simp,?_⟩⟩;rw[Xr,<-ZH,A5 (Ac _),CY];rfl
theorem aHr{h u:Ag}{V:Aa}{L:List Ce}(hV:Lp (h++u) h.length V L)(hb:L.length<=1000000000)(x:B0):∃u' V',Fl (h++u) 3 48 V (.sl 3 [x.row])=some (h++u',V')/\Lp (h++u') h.length V' (L++[x.c]):=by
 have ZJ:AT=140737488355328:=rfl;rcases hV with⟨rfl,rfl⟩|⟨id,fs,Ha,rfl,hc,rfl⟩
 .exact⟨u++[.cells (([x]:List B0).map B0.row).flatten],.Ck (h++u).length 0 1 3,by rw[<-Ax];rfl,.inr ⟨(h++u).length,[x],by simp,rfl,by simp,rfl⟩⟩
 .rw[Ah] at hb;have hg:=IJ (b:=48) (Au:=fs.map B0.row) (r2:=[x.row]) (v:= .sl 3 [x.row]) (LW fs) (by decide) hc .mk (by simp) (by rw[Ah];simp;omega);rw[Ah] at hg;have e:(h++u).set id .CH++[.cells (fs.map B0.row++[x.row]).flatten]=h++(u.set (id-h.length) .CH++[.cells ((fs++[x]).map B0.row).flatten]):=by rw[BP _ _ Ha,Ax,BE];rfl
  rw[e] at hg;have Xr:(h++(u.set (id-h.length) C6.CH++[.cells ((fs++[x]).map B0.row).flatten]))=(h++u.set (id-h.length) C6.CH)++[.cells ((fs++[x]).map B0.row).flatten]:=by rw[Ax]
  have ZH:(h++u.set (id-h.length) C6.CH).length=(h++u).length:=by simp
  refine⟨_,_,hg,.inr ⟨(h++u).length,fs++[x],by simp,by simp,?_,by simp⟩⟩;rw[Xr,<-ZH,A5 (Ac _),CY];rfl
end
structure SS where
 mode:Int
 R6:Int
 tm:List Int
 AR:List Int
 A3:List Ce
 head:Int
 Mr:Int
 fs:Bool
 Eb:Bool
 YP:As
 skip:Bool
 sw:Int
 stop:Bool
def BS.Rx(b:BS):SS:=⟨b.mode,b.R6,b.tm,b.AR.map Item.node,b.A3,b.head,b.Mr,b.fs,b.Eb,b.YP,b.skip,b.sw,b.stop⟩
def Ov(s:SS)(t o c:Aa):List Aa:=[I s.mode,I s.R6,t,o,c,I s.head,I s.Mr,.bool s.fs,.bool s.Eb,.str s.YP,.bool s.skip,I s.sw,.bool s.stop]
structure Rl(h:Ag)(lo:Nat)(s:SS)(t o c:Aa):Prop where
 t:Df s.tm t
 o:KE h lo o s.AR
 c:Lp h lo c s.A3
section
variable{h h':Ag}{bi a lo:Nat}{o c t:Aa}{G G' F:Nat->Prop}{b:BS}{x:Int}{m:Nat}
theorem Rl.Cv{s:SS}(w:Rl h lo s t o c)(hf:∀i,lo<=i->i<h.length->h'[i]?=h[i]?):Rl h' lo s t o c:=⟨w.t,w.o.Cv hf,w.c.Cv hf⟩
theorem V6{h:Ag}{n:Nat}(hn:n<=1000000000):Ug h 3 48 [I 0,S [],.slnil] (I (n:Int)) (I (n:Int))=some (h++[.cells (List.replicate n [I 0,S [],.slnil]).flatten],.Ck h.length 0 n 3):=by
 have hm:AT=140737488355328:=rfl;unfold Ug;simp only
 rw[if_pos ⟨by omega,by omega,by omega,rfl⟩];rfl
theorem aMg(w:BX h bi a o c t G b)(hc:BN b.A3 c)(rm:BR b m):∃t' o' c' u,BI cx 17 [Pt bi 0] h (.agg (Ov b.Rx t' o' c')) (h++u)/\Rl (h++u) h.length b.Rx t' o' c':=by
 have ZJ:AT=140737488355328:=rfl;have ho:=rm.AR;have Q8:=rm.A3;have wv:=rm.tm;obtain⟨t',e0,Fp⟩:=aG0 w.t (by omega) h;have htc:t'.cells=[t']:=AM.cells Fp;obtain⟨fs,F0,hv⟩:=hc;have Gv:b.A3.length=fs.length:=by rw[<-F0,Ah]
 have lo1:=AM.Cp w.o;have H5:Ev cx 17 [Pt bi 0] h λr h'=>∃t' o' c' u,r= .agg (Ov b.Rx t' o' c')/\h'=h++u/\Rl (h++u) h.length b.Rx t' o' c':=by
  unfold Ev;rw[yG,t17];simp only[AA,Nat.reduceLeDiff,↓reduceIte,AK,Bi,(Hs w).call,w.ld,HS,e0.call,Bx,htc,lo1];refine Db (i:=0) (λz:Aa×Nat=>[.agg [I b.mode,I b.R6,t',z.1,.slnil,I b.head,I b.Mr,.bool b.fs,.bool b.Eb,.str b.YP,.bool b.skip,I b.sw,.bool b.stop],I (z.2:Int)]) (λz h1=>z.2<=b.AR.length/\∃u,h1=h++u/\KE (h++u) h.length z.1 ((b.AR.take z.2).map Item.node)) (λz=>b.AR.length-z.2) (λz h1=>∃u,h1=h++u/\KE (h++u) h.length z.1 (b.AR.map Item.node)) (.slnil,0) rfl ⟨AO _,[],by simp,.inl ⟨rfl,by simp⟩⟩ ?_ ?_
  .rintro⟨V,n⟩ h1 ⟨hn,u,rfl,hV⟩;simp only at hn hV;have hVc:=hV.cells;rcases AN n b.AR.length with hlt|DT
   .have e1:=AM.BA (k:= .i64) w.o hlt;rw[Item.row] at e1;obtain⟨u',V',g1,hV'⟩:=bu hV (by rw[Ah,Al];omega) b.AR[n].node;have hV'c:=hV'.cells;have em:Aw (.By 1) [I b.AR[n].node]=some (.sl 1 [[I b.AR[n].node]]):=rfl;simp only[AA,Nat.reduceLeDiff,↓reduceIte,Bi,show(n:Int)<(b.AR.length:Int) by omega,e1,em,g1,hV'c,BB (show n<9223372036854775807 by omega)];exact .next (V',n+1) rfl ⟨hlt,u',rfl,by rw[Av hlt,BE];exact hV'⟩ (by simp only;omega)
   .rw[Az DT] at hV;simp only[AA,↓reduceIte,Bi,show¬(n:Int)<(b.AR.length:Int) by omega];exact .GM (V,n) rfl ⟨u,rfl,hV⟩
  .rintro⟨O,n0⟩ h1 ⟨u,rfl,hO⟩;simp only at hO;have hOc:=hO.cells;have w1:=w.HB (u:=u);have l31:=w1.l3;have lc:=AM.Cp hv;simp only[AA,↓reduceIte,Bi,l31,lc];refine uP (V6 (h:=h++u) (n:=fs.length) (by omega)) ?_;obtain⟨H0,hH0⟩:∃H0,H0=h++u:=⟨_,rfl⟩;rw[<-hH0] at hO⊢;have c0:(H0++[C6.cells (List.replicate fs.length [I 0,S [],.slnil]).flatten])[H0.length]?=some (.cells (List.replicate fs.length [I 0,S [],.slnil]).flatten):=by simp
   have l32:A9 (H0++[C6.cells (List.replicate fs.length [I 0,S [],.slnil]).flatten]) none (Pt bi 3)=some c:=by rw[hH0];exact(w1.HB).l3
   have jJ:(List.replicate fs.length [I 0,S [],Aa.slnil]).flatten.length=fs.length*3:=by rw[D0 (z:=3) (by intro r hr;rw[(List.mem_replicate.1 hr).2];rfl),Gr]
   have cp:Ed (.copy 3) (H0++[C6.cells (List.replicate fs.length [I 0,S [],.slnil]).flatten]) [.Ck H0.length 0 fs.length 3,c]=some (H0++[C6.cells (fs.map B0.row).flatten],I (fs.length:Int)):=by
    have er:Ft (H0++[C6.cells (List.replicate fs.length [I 0,S [],.slnil]).flatten]) 3 c=some (fs.map B0.row):=by
     rcases hv with rfl|⟨rfl,h0⟩
     .simp[Ft]
     .rw[h0];rfl
    simp only[Ed,ZN,er,c0];rw[if_pos ⟨trivial,by simp,by rw[jJ];omega⟩];have h1:(List.replicate fs.length [I 0,S [],Aa.slnil]).flatten.drop (0+(fs.map B0.row).length*3)=[]:=AY (by rw[jJ,Ah];omega);rw[h1,JQ,BD,Bv,Ah,BP _ _ (Ac _),CY];rfl
   have lm:Aw (.len false) [.Ck H0.length 0 fs.length 3]=some (I (fs.length:Int)):=rfl;simp only[AA,↓reduceIte,Bi,l32,cp,lm];refine Db (i:=2) (λn:Nat=>[I (n:Int)]) (λn h1=>n<=fs.length/\∃Hc:List B0,h1=H0++[.cells (Hc.map B0.row).flatten]/\Hc.length=fs.length/\Hc.map (·.c)=b.A3) (λn=>fs.length-n) (λn h1=>∃Hc:List B0,h1=H0++[.cells (Hc.map B0.row).flatten]/\Hc.length=fs.length/\Hc.map (·.c)=b.A3) 0 rfl ⟨AO _,fs,rfl,rfl,F0⟩ ?_ ?_
   .rintro n h1 ⟨hn,Hc,rfl,TZ,sS⟩;rcases AN n fs.length with hlt|DT
    .have Qe:n<Hc.length:=by omega
     have ef:Hc[n].c=b.A3[n]'(by omega):=by simp only[<-sS,CN]
     have hal:=(rm.Dj Hc[n].c (by rw[ef];exact AI _)).2.1;have e1:Aw (.EE 3) [.Ck H0.length 0 fs.length 3,I (n:Int)]=some (Pt H0.length (n*3)):=DO hlt;have cc:(H0++[C6.cells (Hc.map B0.row).flatten])[H0.length]?=some (.cells (Hc.map B0.row).flatten):=by simp
     have hg:(Hc.map B0.row)[n]?=some Hc[n].row:=by rw[Cc,Ai Qe];rfl
     have l2:A9 (H0++[C6.cells (Hc.map B0.row).flatten]) none (Pt H0.length (n*3+2))=some Hc[n].v:=by simp only[A9,cc,Dz];exact IA (LW Hc) (by decide) hg
     obtain⟨av,r1,ZD⟩:=f45 (h:=H0++[C6.cells (Hc.map B0.row).flatten]) Hc[n].ok (by omega);have bw:av.cells=[av]:=AM.cells ZD;have s1:Cd (H0++[C6.cells (Hc.map B0.row).flatten]) 1 (Pt H0.length (n*3+2)) av=some (H0++[.cells ((Hc.set n ⟨Hc[n].c,av,ZD⟩).map B0.row).flatten]):=by have e:=Mw (Au:=Hc.map B0.row) (i:=n) (k:=2) (v:=av) (LW Hc) (by simpa using Qe) (by decide);simp only[Cd,cc,bw,Bc,LZ];rw[if_pos (by rw[D0 (LW Hc),Ah];omega),e,BP _ _ (Ac _),CY,Fj,CN];rfl
     simp only[AA,Bi,show(n:Int)<(fs.length:Int) by omega,e1,l2,r1.call,s1,BB (show n<9223372036854775807 by omega)];refine .next (n+1) rfl ⟨hlt,_,rfl,by rw[Be];exact TZ,?_⟩ (by omega)
     rw[Fj,sS];have zZ:n<b.A3.length:=by omega
     show b.A3.set n Hc[n].c=b.A3;rw[ef,Rv]
    .simp only[AA,Bi,show¬(n:Int)<(fs.length:Int) by omega];exact .GM n rfl ⟨Hc,rfl,TZ,sS⟩
   .rintro n h1 ⟨Hc,rfl,TZ,sS⟩;simp only[AA,↓reduceIte];refine⟨_,rfl,t',O,.Ck H0.length 0 fs.length 3,u++[.cells (Hc.map B0.row).flatten],rfl,by rw[hH0,Ax],Fp,?_,?_⟩;·rw[<-Ax,<-hH0];exact hO.Cv λi _ hi=>Ad hi
    .rw[<-Ax,<-hH0];exact .inr ⟨H0.length,Hc,by rw[hH0];simp,by rw[TZ],by simp,sS⟩
 obtain⟨r,h',hr,t',o',c',u,rfl,rfl,hs⟩:=H5.ret;exact⟨t',o',c',u,hr,hs⟩
end
def PB(h:Ag)(bi:Nat)(b:BS)(F:Nat->Prop):Prop:=∃a o c t G,BX h bi a o c t G b/\BN b.A3 c/\F=own bi G
structure Fin(b:BS)(j:Nat):Prop where
 ok:DG b
 sz:Sz b j
section
variable{h h':Ag}{bi wi:Nat}{b:BS}{F F2:Nat->Prop}{q:dG}{av:Aa}{j:Nat}
theorem PB.lt(w:PB h bi b F){i:Nat}(hi:F i):i<h.length:=by
 obtain⟨a,o,c,t,G,w,_,rfl⟩:=w;rcases hi with rfl|hi
 .exact w.lt
 .exact w.w.lt hi
theorem PB.Cv(w:PB h bi b F)(hf:∀i,F i->h'[i]?=h[i]?):PB h' bi b F:=by obtain⟨a,o,c,t,G,w,hc,rfl⟩:=w;exact⟨a,o,c,t,G,w.Cv hf,hc,rfl⟩
theorem PB.HB(w:PB h bi b F){u:Ag}:PB (h++u) bi b F:=w.Cv λi hi=>Ad (w.lt hi)
theorem aMh(w:PB h bi b F)(f:Fin b (j+1))(hq:bn q)(hv:Bz q.Ay av):∃h' F',BI cx 23 [Pt bi 0,.agg (KA q av)] h (.agg (VX b q).2.row) h'/\PB h' bi (VX b q).1 F'/\Dh h F h' F':=by obtain⟨a,o,c,t,G,w,hc,rfl⟩:=w;obtain⟨h',o',c',t',G',r,w',Km,x⟩:=aMb w hc f.ok f.sz hq hv;exact⟨h',_,r,⟨a,o',c',t',G',w',Km,rfl⟩,x⟩
theorem aMi(s:EK)(hv:Bz s.Ay av)(hl:DH s.Ay)(h:Ag):∃h' bi F,BI cx 8 [.agg (Ou s av)] h (Pt bi 0) h'/\PB h' bi s.b F/\Dh h (λ_=>False) h' F:=by obtain⟨h',bi,a,o,c,t,G,r,w,hc,x⟩:=aMf h s hv hl;exact⟨h',bi,_,r,⟨a,o,c,t,G,w,hc,rfl⟩,x⟩
end
structure QO where
 q:dG
 v:Aa
 ok:Bz q.Ay v
def QO.row(x:QO):List Aa:=KA x.q x.v
theorem QO.Cq{x:QO}:x.row.length=9:=rfl
theorem QO.GA{x:QO}:x.row.take 9=x.row:=rfl
def pP(l:List QO)(v:Aa):Prop:=AM 9 (l.map QO.row) v
noncomputable def Mz:BS->List QO->BS
 |b,[]=>b
 |b,x::l=>Mz (VX b x.q).1 l
theorem V8:∀{l:List QO} {b:BS} {x:QO},Mz b (l++[x])=(VX (Mz b l) x.q).1
 |[],_,_=>rfl
 |y::l,b,x=>by rw[CC,Mz,V8,Mz]
structure jQ(h:Ag)(v:Aa)(fs:List B0):Prop where
 len:Aw (.len false) [v]=some (I (fs.length:Int))
 at_:∀k (hk:k<fs.length),∃id o,Aw (.EE 3) [v,I (k:Int)]=some (Pt id o)/\A9 h none (Pt id o)=some (I fs[k].c.node)/\A9 h none (Pt id (o+1))=some (.str fs[k].c.name)/\A9 h none (Pt id (o+2))=some fs[k].v
def xg(h:Ag)(x:Em)(r:List Aa):Prop:=∃K V,r=[I x.kind,I x.Fa,K,I x.Cz,I x.A0,.str x.name,V,.str x.data,.str x.pub,.str x.sys,.bool x.Cr,I x.cont,I x.DW]/\Qd h K x.AZ/\LJ h V x.Ay/\K.cells=[K]/\V.cells=[V]
def V9(h:Ag)(v:Aa)(l:List Em):Prop:=∃Au:List (List Aa),AM 13 Au v/\Au.length=l.length/\∀k (h1:k<Au.length) (h2:k<l.length),xg h l[k] Au[k]
def Wa(h:Ag)(lo:Nat)(v:Aa)(l:List Em):Prop:=∃Au:List (List Aa),AM 13 Au v/\Au.length=l.length/\∀k (h1:k<Au.length) (h2:k<l.length),TC h lo l[k] Au[k]
section
variable{h h':Ag}{lo lo':Nat}{v v':Aa}
theorem Lp.at_{l:List Ce}(hv:Lp h lo v l):∃fs:List B0,fs.map (·.c)=l/\jQ h v fs:=by
 rcases hv with⟨rfl,rfl⟩|⟨id,fs,_,rfl,hc,e⟩
 .exact⟨[],rfl,rfl,λk hk=>by simp at hk⟩
 .refine⟨fs,e,rfl,λk hk=>⟨id,k*3,DO hk,?_⟩⟩;have hg:(fs.map B0.row)[k]?=some fs[k].row:=by rw[Cc,Ai hk];rfl
  have ld:∀j,j<3->A9 h none (Pt id (k*3+j))=fs[k].row[j]?:=λj hj=>by simp only[A9,hc,Dz];exact IA (LW fs) hj hg
  have l0:=ld 0 (by decide);rw[Bn] at l0;exact⟨l0,ld 1 (by decide),ld 2 (by decide)⟩
theorem Up.le{N N':Nat}(hu:Up N v)(hl:N'<=N):Up N' v:=λid k e=>Bt hl (hu id k e)
theorem TC.rd{x:Em}{r:List Aa}(hr:TC h lo x r):xg h x r:=let⟨K,V,e,h1,h2,_⟩:=hr;⟨K,V,e,h1.Rc,h2.in_,AM.cells h1,h2.cells⟩
theorem TC.low{x:Em}{r:List Aa}(hr:TC h lo x r)(hl:lo'<=lo):TC h lo' x r:=let⟨K,V,e,h1,h2,h3⟩:=hr;⟨K,V,e,h1,h2,h3.le hl⟩
theorem Wa.rd{l:List Em}(hv:Wa h lo v l):V9 h v l:=let⟨Au,h1,h2,h3⟩:=hv;⟨Au,h1,h2,λk a b=>(h3 k a b).rd⟩
theorem f18{l:List Int}(hv:Qd h v l)(Du:Qd h v' l)(hb:l.length<=1000000000):BI cx 35 [v,v'] h tt h:=by
 rw[Ab,yM,t35];simp only[AA,Bi,hv.len,Du.len,ne_eq,Cx];refine Bd (λn:Nat=>[ff,I (n:Int)]) (λn h1=>n<=l.length/\h1=h) (λn=>l.length-n) 0 rfl ⟨AO _,rfl⟩ ?_;rintro n h1 ⟨hn,rfl⟩;rcases AN n l.length with hlt|DT
 .obtain⟨p,a1,a2⟩:=hv.at_ n hlt;obtain⟨p',b1,b2⟩:=Du.at_ n hlt;simp only[AA,Bi,hv.len,show(n:Int)<(l.length:Int) by omega,a1,a2,b1,b2,ne_eq,Cx,BB (show n<9223372036854775807 by omega)];exact AF.next (n+1) rfl ⟨hlt,rfl⟩ (by omega)
 .simp only[AA,Bi,hv.len,show¬(n:Int)<(l.length:Int) by omega]
theorem aHs(y:AU):Aw (.geq true [.i,.s,.s]) [.agg y.row,.agg y.row]=some (.bool false):=by rw[PZ];simp[AU.row,DC,Ko]
theorem aHt{l:List AU}(hv:LJ h v l)(Du:LJ h v' l)(hb:l.length<=1000000000):BI cx 299 [v,v'] h tt h:=by
 rw[Ab,px,aFM];simp only[AA,Bi,hv.len,Du.len,ne_eq,Cx];refine Bd (λn:Nat=>[ff,I (n:Int)]) (λn h1=>n<=l.length/\h1=h) (λn=>l.length-n) 0 rfl ⟨AO _,rfl⟩ ?_;rintro n h1 ⟨hn,rfl⟩;rcases AN n l.length with hlt|DT
 .obtain⟨p,a1,a2⟩:=hv.at_ n hlt;obtain⟨p',b1,b2⟩:=Du.at_ n hlt;simp only[AA,Bi,hv.len,show(n:Int)<(l.length:Int) by omega,a1,a2,b1,b2,aHs,BB (show n<9223372036854775807 by omega)];exact AF.next (n+1) rfl ⟨hlt,rfl⟩ (by omega)
 .simp only[AA,Bi,hv.len,show¬(n:Int)<(l.length:Int) by omega]
theorem f87{fs si:List B0}(hv:jQ h v fs)(Du:jQ h v' si)(he:fs.map (·.c)=si.map (·.c))(hb:fs.length<=1000000000)(ha:∀e∈fs,e.c.Ay.length<=1000000000):BI cx 55 [v,v'] h tt h:=by
 have hl:si.length=fs.length:=by have:=Cf List.length he;simpa using this.symm
 have l1:=hv.len;have l2:=Du.len;rw[hl] at l2;rw[Ab,aAj,t55];simp only[AA,Bi,l1,l2,ne_eq,Cx];refine Bd (λn:Nat=>[ff,I (n:Int)]) (λn h1=>n<=fs.length/\h1=h) (λn=>fs.length-n) 0 rfl ⟨AO _,rfl⟩ ?_;rintro n h1 ⟨hn,rfl⟩;rcases AN n fs.length with hlt|DT
 .have Ra:n<si.length:=by omega
  have ec:si[n].c=fs[n].c:=by have:=Cf (λl=>l[n]?) he;simp only[Cc,Ai hlt,Ai Ra,BT,BF] at this;exact this.symm
  obtain⟨id,o,a1,a2,a3,a4⟩:=hv.at_ n hlt;obtain⟨E0,o',b1,b2,b3,b4⟩:=Du.at_ n Ra;rw[ec] at b2 b3;have ZD:Bz fs[n].c.Ay fs[n].v:=fs[n].ok;have aHu:Bz fs[n].c.Ay si[n].v:=by rw[<-ec];exact si[n].ok
  have Wk:=ha _ (AI hlt);have m1:=AM.Cp ZD;have m2:=AM.Cp aHu;generalize fs[n].v=av at*;generalize si[n].v=jO at*;generalize fs[n].c.Ay=al at*;simp only[AA,Bi,l1,show(n:Int)<(fs.length:Int) by omega,a1,a2,a3,a4,b1,b2,b3,b4,ne_eq,Cx,m1,m2];refine Bd (λj:Nat=>[ff,I (j:Int)]) (λj h2=>j<=al.length/\h2=h1) (λj=>al.length-j) 0 rfl ⟨AO _,rfl⟩ ?_;rintro j h2 ⟨hj,rfl⟩;rcases AN j al.length with ZG|hjg
  .have e1:=AM.BA (k:= .i64) ZD ZG;have e2:=AM.BA (k:= .i64) aHu ZG;have yr:(AU.row al[j]).length=3:=rfl;have ht3:(AU.row al[j]).take 3=AU.row al[j]:=rfl;simp only[AA,Bi,a1,a4,b1,b4,m1,show(j:Int)<(al.length:Int) by omega,e1,e2,yr,ht3,Ac,aHs,BB (show j<9223372036854775807 by omega)];exact AF.next (j+1) rfl ⟨ZG,rfl⟩ (by omega)
  .simp only[AA,Bi,a1,a4,m1,show¬(j:Int)<(al.length:Int) by omega,BB (show n<9223372036854775807 by omega)];exact AF.next (n+1) rfl ⟨hlt,rfl⟩ (by omega)
 .simp only[AA,Bi,l1,show¬(n:Int)<(fs.length:Int) by omega]
theorem f22{s:SS}{t o c t' o' c':Aa}(w:Rl h lo s t o c)(w':Rl h lo' s t' o' c')(b1:s.tm.length<=1000000000)(b2:s.AR.length<=1000000000)(b3:s.A3.length<=1000000000)(b4:∀e∈s.A3,e.Ay.length<=1000000000):BI cx 18 [.agg (Ov s t o c),.agg (Ov s t' o' c')] h tt h:=by
 obtain⟨fs,e1,he⟩:=w.c.at_;obtain⟨si,e1',O6⟩:=w'.c.at_;have r1:=f18 w.o.Rc w'.o.Rc b2;have r2:=f87 he O6 (e1.trans e1'.symm) (by rw[<-e1,Ah] at b3;exact b3) (λe hm=>b4 e.c (by rw[<-e1];exact aIe hm));have tc:t.cells=[t]:=AM.cells w.t;have tc':t'.cells=[t']:=AM.cells w'.t;have oc:=w.o.cells;have oc':=w'.o.cells;have cc:=w.c.cells;have cc':=w'.c.cells;have l1:=AM.Cp w.t;have l2:=AM.Cp w'.t;rw[Ab,Y_,t18,Ov,Ov];simp only[AA,Bi,l1,l2,ne_eq,Cx,r1.call,r2.call];refine Bd (λn:Nat=>[ff,I (n:Int)]) (λn h1=>n<=s.tm.length/\h1=h) (λn=>s.tm.length-n) 0 rfl ⟨AO _,rfl⟩ ?_;rintro n h1 ⟨hn,rfl⟩;rcases AN n s.tm.length with hlt|DT
 .have a1:=AM.BA (k:= .i64) w.t hlt;have a2:=AM.BA (k:= .i64) w'.t hlt;rw[B6] at a1 a2;simp only[AA,Bi,l1,show(n:Int)<(s.tm.length:Int) by omega,a1,a2,ne_eq,Cx,BB (show n<9223372036854775807 by omega)];exact AF.next (n+1) rfl ⟨hlt,rfl⟩ (by omega)
 .simp only[AA,Bi,l1,show¬(n:Int)<(s.tm.length:Int) by omega,Cx,D8]
theorem aMk{x:Em}{r r':List Aa}(hr:xg h x r)(Fy:xg h x r')(hb:x.Ay.length<=1000000000):BI cx 262 [.agg r,.agg r'] h tt h:=by obtain⟨K,V,rfl,k1,k2,k3,k4⟩:=hr;obtain⟨K',V',rfl,xe,xf,k3',k4'⟩:=Fy;have r1:=aHt k2 xf hb;rw[Ab,oh,aFu];simp only[AA,Bi,Cx,r1.call,D8]
theorem f183{x:Em}{r r':List Aa}(hr:xg h x r)(Fy:xg h x r')(hb:x.Ay.length<=1000000000)(hk:x.AZ.length<=1000000000):BI cx 191 [.agg r,.agg r'] h tt h:=by have r1:=aMk hr Fy hb;obtain⟨K,V,rfl,k1,k2,k3,k4⟩:=hr;obtain⟨K',V',rfl,xe,xf,k3',k4'⟩:=Fy;have r2:=f18 k1 xe hk;rw[Ab,mf,aE0];simp only[AA,Cx,r1.call,r2.call,D8]
theorem f90{l:List Em}(hv:V9 h v l)(Du:V9 h v' l)(hb:l.length<=1000000000)(ha:∀x∈l,x.Ay.length<=1000000000/\x.AZ.length<=1000000000):BI cx 104 [v,v'] h tt h:=by
 obtain⟨Au,s1,e1,n1⟩:=hv;obtain⟨rows',s1',e1',n1'⟩:=Du;have l1:=s1.len;have l2:=s1'.len;rw[e1] at l1;rw[e1'] at l2;rw[Ab,jw,aEE];simp only[AA,Bi,l1,l2,ne_eq,Cx];refine Bd (λn:Nat=>[ff,I (n:Int)]) (λn h1=>n<=l.length/\h1=h) (λn=>l.length-n) 0 rfl ⟨AO _,rfl⟩ ?_;rintro n h1 ⟨hn,rfl⟩;rcases AN n l.length with hlt|DT
 .have a1:=s1.EE (k:= .i64) (show n<Au.length by omega);have a2:=s1'.EE (k:= .i64) (show n<rows'.length by omega);have q1:=n1 n (by omega) hlt;have q2:=n1' n (by omega) hlt;have hm:=ha _ (AI hlt);have r1:=f183 q1 q2 hm.1 hm.2;obtain⟨K,V,er,_⟩:=q1;obtain⟨K',V',er',_⟩:=q2;rw[er] at a1 r1;rw[er'] at a2 r1;simp only[AA,Nat.reduceLeDiff,↓reduceIte,Bi,l1,show(n:Int)<(l.length:Int) by omega,a1,a2,r1.call,BB (show n<9223372036854775807 by omega)];exact AF.next (n+1) rfl ⟨hlt,rfl⟩ (by omega)
 .simp only[AA,↓reduceIte,Bi,l1,show¬(n:Int)<(l.length:Int) by omega]
end
theorem jR{A:Ar}{k:Nat}(hk:k<A.n.length):A.has ((k:Int)+1)/\A.nd ((k:Int)+1)=A.n[k]:=by
 have h1:A.has ((k:Int)+1):=by unfold Ar.has;omega
 refine⟨h1,?_⟩;unfold Ar.nd;rw[if_pos h1,AE,show((k:Int)+1).toNat-1=k by omega,Ai hk];rfl
section
variable{h h':Ag}{a n:Nat}{m:Option Nat}{ps:List PN}{A:Ar}{x:Int}
theorem aMl(w:PA h a n m ps A)(lm:L3 A)(hk:∀x,(A.nd x).AZ.length<=1000000000)(hb:A.n.length<=900000000):∃v u,BI cx 25 [Pt a 0] h v (h++u)/\Wa (h++u) h.length v A.n:=by
 have ZJ:AT=140737488355328:=rfl;have ZE:A.n.length=ps.length:=by rw[w.e,Ah]
 have H5:Ev cx 25 [Pt a 0] h λr h'=>∃u,h'=h++u/\Wa (h++u) h.length r A.n:=by
  unfold Ev;rw[aAc,t25];simp only[AA,Bi,w.nodes,show Aw (.len false) [.Ck n 0 ps.length 13]=some (I (ps.length:Int)) from rfl];refine Bd (λz:Aa×Nat=>[z.1,I (z.2:Int)]) (λz h1=>z.2<=ps.length/\∃u,h1=h++u/\Wa (h++u) h.length z.1 (A.n.take z.2)) (λz=>ps.length-z.2) (.slnil,0) rfl ⟨AO _,[],by simp,[],.nil,by simp,λk h1 h2=>by simp at h1⟩ ?_;rintro⟨V,k⟩ h1 ⟨Wr,u,rfl,hV⟩;simp only at Wr hV;have w1:PA (h++u) a n m ps A:=w.Cv λi hi=>Ad (w.lt i hi);rcases AN k ps.length with hlt|DT
  .obtain⟨hx,ex⟩:=jR (A:=A) (k:=k) (by omega);obtain⟨r,t,r1,hr⟩:=vu w1 lm hx (hk _);have ea:Aw (.EE 13) [.Ck n 0 ps.length 13,I (k:Int)]=some (.ptr (some (n,nP n ((k:Int)+1)))):=by have:=DO (k:= .i64) (id:=n) (z:=13) hlt;rw[this];unfold nP;congr 4
   obtain⟨Au,s1,e1,n1⟩:=hV;rw[Al,Co (by omega)] at e1;obtain⟨K,W,er,K5⟩:=hr;have em:Aw (.By 13) [.agg r]=some (.sl 13 [r]):=La (a:= .agg r) (by rw[er];rfl) (by decide);have ap:=AM.xG (b:=168) (row:=r) s1 (by omega);simp only[AA,Bi,show(k:Int)<(ps.length:Int) by omega,w1.nodes,ea,r1.call,em,ap,BB (show k<9223372036854775807 by omega)];refine AF.next (_,k+1) rfl ⟨hlt,u++t,by rw[Ax],Au++[r],.mk,by rw[Ao,Al,e1];simp;omega,λj h1 h2=>?_⟩ (by simp only;omega);rw[<-Ax];rw[List.getElem_take];by_cases hj:j<Au.length;·rw[GL hj];have:=n1 j hj (by rw[Al];omega);rw[List.getElem_take] at this;exact this.HB
   .have ej:j=k:=by simp at h1;omega
    subst ej;rw[List.getElem_append_right (by omega)];simp only[e1,CY,List.getElem_cons_zero];rw[<-ex];exact TC.low (lo:=(h++u).length) ⟨K,W,er,K5⟩ (by simp)
  .rw[Az (by omega)] at hV;simp only[AA,Bi,show¬(k:Int)<(ps.length:Int) by omega];exact⟨_,rfl,u,rfl,hV⟩
 obtain⟨r,h',hr,u,rfl,hV⟩:=H5.ret;exact⟨r,u,hr,hV⟩
end
structure RN where
 x:Em
 kv:Aa
 av:Aa
 okk:Df x.AZ kv
 oka:Bz x.Ay av
def RN.row(p:RN):List Aa:=[I p.x.kind,I p.x.Fa,p.kv,I p.x.Cz,I p.x.A0,.str p.x.name,p.av,.str p.x.data,.str p.x.pub,.str p.x.sys,.bool p.x.Cr,I p.x.cont,I p.x.DW]
def RN.z:RN:=⟨{},.slnil,.slnil,.inr ⟨rfl,rfl⟩,.inr ⟨rfl,rfl⟩⟩
theorem bz(l:List RN):∀r∈l.map RN.row,r.length=13:=Kd (f:=RN.row) (λ_=>rfl) l
structure RA(h:Ag)(a n i:Nat)(ps:List RN)(A:Ar):Prop where
 e:A.n=ps.map RN.x
 il:A.i.length=A.n.length
 ha:h[a]?=some (.cells [.Ck n 0 (ps.length+1) 13,.Ck i 0 (ps.length+1) 1])
 hn:h[n]?=some (.cells ((RN.z::ps).map RN.row).flatten)
 hi:h[i]?=some (.cells ((0::A.i).map (Aa.int .i64)))
 d:a≠n/\a≠i/\n≠i
def IC(a n i:Nat):Nat->Prop:=λj=>j=a\/j=n\/j=i
def RW(h:Ag)(G:Nat->Prop)(a:Nat)(A:Ar):Prop:=∃n i ps,RA h a n i ps A/\G=IC a n i
def pR(ps:List RN)(x:Int):RN:=(RN.z::ps).getD x.toNat RN.z
def nR(x:Int):Nat:=x.toNat*13
section
variable{h h':Ag}{a n i:Nat}{ps:List RN}{A:Ar}{x:Int}{G:Nat->Prop}
theorem RA.Cv(w:RA h a n i ps A)(hf:∀j,IC a n i j->h'[j]?=h[j]?):RA h' a n i ps A:=
 ⟨w.e,w.il,by rw[hf a (.inl rfl)];exact w.ha,by rw[hf n (.inr (.inl rfl))];exact w.hn,by rw[hf i (.inr (.inr rfl))];exact w.hi,w.d⟩
theorem RA.lt(w:RA h a n i ps A){j:Nat}(hj:IC a n i j):j<h.length:=by
 rcases hj with rfl|rfl|rfl
 .exact(Ae.1 w.ha).1
 .exact(Ae.1 w.hn).1
 .exact(Ae.1 w.hi).1
theorem RW.Cv(w:RW h G a A)(hf:∀j,G j->h'[j]?=h[j]?):RW h' G a A:=by obtain⟨n,i,ps,w,rfl⟩:=w;exact⟨n,i,ps,w.Cv hf,rfl⟩
theorem RW.lt(w:RW h G a A){j:Nat}(hj:G j):j<h.length:=by obtain⟨n,i,ps,w,rfl⟩:=w;exact w.lt hj
theorem RA.len(w:RA h a n i ps A):A.n.length=ps.length:=by rw[w.e,Ah]
theorem RA.nodes(w:RA h a n i ps A):A9 h none (Pt a 0)=some (.Ck n 0 (ps.length+1) 13):=by simp only[A9,w.ha];rfl
theorem RA.VO(w:RA h a n i ps A):A9 h none (Pt a 1)=some (.Ck i 0 (ps.length+1) 1):=by simp only[A9,w.ha];rfl
theorem RA.at(w:RA h a n i ps A)(hx:A.has x):x.toNat<ps.length+1/\(x.toNat:Int)=x:=by have h1:=hx.1;have h2:=hx.2;rw[w.len] at h2;omega
theorem RA.pn(w:RA h a n i ps A)(hx:A.has x):(RN.z::ps)[x.toNat]?=some (pR ps x)/\(pR ps x).x=A.nd x:=by
 have h1:=(w.at hx).1;have h2:=hx.1;have hl:x.toNat<(RN.z::ps).length:=by simpa using h1
 refine⟨by unfold pR;rw[AE,Ai hl];rfl,?_⟩;unfold Ar.nd pR;rw[if_pos hx,w.e];obtain⟨k,hk⟩:∃k,x.toNat=k+1:=⟨x.toNat-1,by omega⟩;rw[hk,List.getD_cons_succ,GJ,AE,AE,Cc];have:k<ps.length:=by omega
 rw[Ai this];rfl
theorem RA.BW(w:RA h a n i ps A)(hx:A.has x){k:Nat}(hk:k<13):A9 h none (Pt n (nR x+k))=(pR ps x).row[k]?:=by unfold nR;simp only[A9,w.hn,Dz];exact IA (bz _) hk (by rw[Cc,(w.pn hx).1];rfl)
theorem RA.addr(w:RA h a n i ps A)(hx:A.has x):Aw (.EE 13) [.Ck n 0 (ps.length+1) 13,I x]=some (Pt n (nR x)):=by obtain⟨h1,h2⟩:=w.at hx;have:=DO (k:= .i64) (id:=n) (z:=13) h1;rwa [h2] at this
theorem RA.f0(w:RA h a n i ps A)(hx:A.has x):A9 h none (Pt n (nR x))=some (I (A.nd x).kind):=by have:=w.BW hx (k:=0) (by decide);rw[Bn] at this;rw[this,<-(w.pn hx).2];rfl
theorem RA.f1(w:RA h a n i ps A)(hx:A.has x):A9 h none (Pt n (nR x+1))=some (I (A.nd x).Fa):=by rw[w.BW hx (by decide),<-(w.pn hx).2];rfl
theorem RA.f2(w:RA h a n i ps A)(hx:A.has x):A9 h none (Pt n (nR x+2))=some (pR ps x).kv:=by rw[w.BW hx (by decide)];rfl
theorem RA.f3(w:RA h a n i ps A)(hx:A.has x):A9 h none (Pt n (nR x+3))=some (I (A.nd x).Cz):=by rw[w.BW hx (by decide),<-(w.pn hx).2];rfl
theorem RA.f4(w:RA h a n i ps A)(hx:A.has x):A9 h none (Pt n (nR x+4))=some (I (A.nd x).A0):=by rw[w.BW hx (by decide),<-(w.pn hx).2];rfl
theorem RA.f5(w:RA h a n i ps A)(hx:A.has x):A9 h none (Pt n (nR x+5))=some (.str (A.nd x).name):=by rw[w.BW hx (by decide),<-(w.pn hx).2];rfl
theorem RA.f6(w:RA h a n i ps A)(hx:A.has x):A9 h none (Pt n (nR x+6))=some (pR ps x).av:=by rw[w.BW hx (by decide)];rfl
theorem RA.f7(w:RA h a n i ps A)(hx:A.has x):A9 h none (Pt n (nR x+7))=some (.str (A.nd x).data):=by rw[w.BW hx (by decide),<-(w.pn hx).2];rfl
theorem RA.xh(w:RA h a n i ps A)(hx:A.has x):A9 h none (Pt n (nR x+11))=some (I (A.nd x).cont):=by rw[w.BW hx (by decide),<-(w.pn hx).2];rfl
theorem RA.f12(w:RA h a n i ps A)(hx:A.has x):A9 h none (Pt n (nR x+12))=some (I (A.nd x).DW):=by rw[w.BW hx (by decide),<-(w.pn hx).2];rfl
theorem RA.LD(w:RA h a n i ps A)(hx:A.has x):Df (A.nd x).AZ (pR ps x).kv:=by rw[<-(w.pn hx).2];exact(pR ps x).okk
theorem RA.ag(w:RA h a n i ps A)(hx:A.has x):Bz (A.nd x).Ay (pR ps x).av:=by rw[<-(w.pn hx).2];exact(pR ps x).oka
theorem RA.wr(w:RA h a n i ps A)(hx:A.has x){k:Nat}(hk:k<13){v:Aa}(hv:v.cells=[v]){p:RN}(hp:p.row=(pR ps x).row.set k v):
  ∃h',Cd h 1 (Pt n (nR x+k)) v=some h'/\RA h' a n i (ps.set (x.toNat-1) p) (A.set x p.x)/\Dh h (IC a n i) h' (IC a n i)/\h'.length=h.length:=by
 obtain⟨hlt,hxe⟩:=w.at hx;have h1:=hx.1;have hg:=(w.pn hx).1;have Ra:x.toNat<(RN.z::ps).length:=by simpa using hlt
 rw[Ai Ra,BF] at hg;have e:=Mw (Au:=(RN.z::ps).map RN.row) (i:=x.toNat) (k:=k) (v:=v) (bz _) (by simpa using hlt) hk;rw[CN,hg,<-hp,<-Fj] at e;have es:(RN.z::ps).set x.toNat p=RN.z::ps.set (x.toNat-1) p:=by obtain⟨j,hj⟩:∃j,x.toNat=j+1:=⟨x.toNat-1,by omega⟩;rw[hj,List.set_cons_succ,GJ]
 rw[es] at e;have Nx:=w.lt (.inr (.inl rfl));refine⟨h.set n (.cells ((RN.z::ps.set (x.toNat-1) p).map RN.row).flatten),?_,⟨?_,?_,?_,AG Nx,?_,w.d⟩,⟨by rw[Be];exact Ac _,λj _ hn=>Af λe=>hn (.inr (.inl e.symm)),λj hj=> .inl hj⟩,Be⟩;·unfold nR;simp only[Cd,w.hn,hv,Bc,LZ];rw[if_pos (by rw[D0 (bz _),Ah];have:=EA 13 (show x.toNat+1<=(RN.z::ps).length from Ra);omega),e]
 .unfold Ar.set;simp only;rw[if_pos hx,w.e,Fj]
 .unfold Ar.set;simp only;rw[if_pos hx,Be];exact w.il
 .rw[Af (DS w.d.1),Be];exact w.ha
 .rw[Af w.d.2.2];exact w.hi
theorem Hd(w:RA h a n i ps A):BI cx 164 [Pt a 0,I x] h (.bool (decide (A.has x))) h:=by
 have hl:=w.len;rw[Ab,ls,t164];by_cases h0:0<x
 .have e:decide (A.has x)=decide (x<((ps.length+1:Nat):Int)):=by rw[D4];unfold Ar.has;omega
  rw[e];simp only[AA,Bi,h0,w.nodes,show Aw (.len false) [.Ck n 0 (ps.length+1) 13]=some (I ((ps.length+1:Nat):Int)) from rfl]
 .have e:decide (A.has x)=false:=by rw[AB];unfold Ar.has;omega
  rw[e];simp only[AA,Bi,h0]
theorem aHv(w:RA h a n i ps A):BI cx 306 [Pt a 0,I x] h (I (A.nd x).Fa) h:=by
 rw[Ab,p_,aFP];by_cases hx:A.has x;·simp only[AA,Bi,(Hd (x:=x) w).call,AD hx,w.nodes,w.addr hx,w.f1 hx]
 .rw[GN hx];simp only[AA,Bi,(Hd (x:=x) w).call,AB hx]
theorem b_(w:RA h a n i ps A)(hb:(A.nd x).AZ.length<=1000000000):∃v,BI cx 186 [Pt a 0,I x] h v h/\Df (A.nd x).AZ v:=by
 have hm:AT=140737488355328:=rfl;by_cases hx:A.has x;·obtain⟨u,e,hu⟩:=AM.Gk (b:=8) (w.LD hx) (by omega);refine⟨u,?_,hu⟩;rw[Ab,nJ,aA8];simp only[AA,Bi,(Hd (x:=x) w).call,AD hx,w.nodes,w.addr hx,w.f2 hx,e]
 .refine⟨.slnil,?_,by rw[GN hx];exact .inr ⟨rfl,rfl⟩⟩;rw[Ab,nJ,aA8];simp only[AA,Bi,(Hd (x:=x) w).call,AB hx]
theorem aHw(w:RA h a n i ps A)(hx:A.has x):BI cx 166 [Pt a 0,I x] h (I (A.up x)) h:=by
 rw[Ab,lz,aEW];by_cases hp:(A.nd x).Fa=0
 .have e:A.up x=(A.nd x).DW:=by unfold Ar.up;rw[if_neg (by simpa using hp)]
  simp only[AA,Bi,w.nodes,w.addr hx,w.f1 hx,hp,w.f12 hx,e,ne_eq,Cx]
 .have e:A.up x=(A.nd x).Fa:=by unfold Ar.up;rw[if_pos (by simpa using hp)]
  simp only[AA,Bi,w.nodes,w.addr hx,w.f1 hx,hp,e,ne_eq]
end
theorem aHx{A:Ar}{e x:Int}(ok:Ew A e)(hx:A.has x)(h0:A.up x≠0):A.has (A.up x):=by
 unfold Ar.up at h0⊢;split at h0;·rename_i h;rw[if_pos h];exact(ok.Fa x hx h).1
 .rename_i h;rw[if_neg h];exact(ok.DW x hx h0).1
theorem tD{A:Ar}{t x:Int}(hne:x≠t):Reach A t x↔A.up x≠0/\Reach A t (A.up x):=by
 constructor
 .intro h;cases h with
  |refl=>exact absurd rfl hne
  |step h1 h2=>exact⟨h1,h2⟩
 .exact λh=> .step h.1 h.2
section
variable{h h':Ag}{a n i:Nat}{ps:List RN}{A:Ar}{x:Int}{G:Nat->Prop}
open Classical in
theorem aHy{up e:Int}(w:RA h a n i ps A)(ok:Ew A e)(hu:A.has up)(hx:A.has x):BI cx 297 [Pt a 0,I up,I x] h (.bool (decide (Reach A up x))) h:=by
 obtain⟨r,hr⟩:=ok.YN;have hu0:up≠0:=by have:=hu.1;omega
 rw[Ab,pq,aFK];simp only[AA,Bi,(Hd (x:=up) w).call,(Hd (x:=x) w).call,AD hu,AD hx];refine Bd (λc:Int=>[I c,ff]) (λc h1=>(c=0\/A.has c)/\(Reach A up x↔c≠0/\Reach A up c)/\h1=h) (λc=>if c=0 then 0 else r c+1) x rfl ⟨.inr hx,⟨λh=>⟨by have:=hx.1;omega,h⟩,λh=>h.2⟩,rfl⟩ ?_;rintro c h1 ⟨hc,he,rfl⟩;by_cases h0:c=0;·have e:decide (Reach A up x)=false:=AB (λhh=>(he.1 hh).1 h0);simp only[AA,Bi,h0,ne_eq,e]
 .have hc:=hc.resolve_left h0;by_cases hcu:c=up;·have e:decide (Reach A up x)=true:=AD (he.2 ⟨h0,by rw[hcu];exact .refl⟩);simp only[AA,Bi,h0,ne_eq,AW hcu,e]
  .simp only[AA,Bi,h0,ne_eq,hcu,(aHw w hc).call];refine AF.next (A.up c) rfl ⟨?_,?_,rfl⟩ ?_
   .by_cases hz:A.up c=0;·exact .inl hz
    .exact .inr (aHx ok hc hz)
   .rw[he,tD hcu];exact⟨λh=>h.2,λh=>⟨h0,h⟩⟩
   .by_cases hz:A.up c=0;·rw[if_pos hz,if_neg h0];omega
    .rw[if_neg hz,if_neg h0];have:=hr c hc hz;omega
theorem aHz{v:Aa}{l:List Int}(hv:Df l v)(hb:l.length<=1000000000)(x:Int)(h:Ag):∃u,BI cx 298 [v,I x] h u h/\Df (l.filter λk=>decide (k≠x)) u:=by
 have hm:AT=140737488355328:=rfl;have H5:Ev cx 298 [v,I x] h λr h'=>Df (l.filter λk=>decide (k≠x)) r/\h'=h:=by
  unfold Ev;rw[pv,aFL];refine Bd (λs:Aa×Nat=>[s.1,I (s.2:Int)]) (λs h1=>s.2<=l.length/\Df ((l.take s.2).filter λk=>decide (k≠x)) s.1/\h1=h) (λs=>l.length-s.2) (.slnil,0) rfl ⟨AO _,.inr ⟨rfl,rfl⟩,rfl⟩ ?_;rintro⟨u,k⟩ h1 ⟨hk,hu,rfl⟩;simp only at hk hu;have hvl:=AM.Cp hv;rcases AN k l.length with hlt|DT
  .have e1:=AM.BA (k:= .i64) hv hlt;rw[B6] at e1;have em:Aw (.By 1) [I l[k]]=some (.sl 1 [B6 l[k]]):=rfl;have Gv:((l.take k).filter λk=>decide (k≠x)).length<=l.length:=Bt (List.length_filter_le _ _) (by rw[Al];omega);have e2:=AM.Jg (b:=8) (a:=l[k]) hu (by omega);simp only[AA,Bi,hvl,show(k:Int)<(l.length:Int) by omega,e1,em,e2,BB (show k<9223372036854775807 by omega),ne_eq];refine⟨λh2=>?_,λh2=>?_⟩
   .refine AF.next (_,k+1) rfl ⟨hlt,?_,rfl⟩ (by simp only;omega);rw[Av hlt,EB];have:[l[k]].filter (λk=>decide (k≠x))=[l[k]]:=by simp[h2]
    rw[this];exact .mk
   .refine AF.next (u,k+1) rfl ⟨hlt,?_,rfl⟩ (by simp only;omega);rw[Av hlt,EB];have h2:l[k]=x:=by simpa using h2
    have:[l[k]].filter (λk=>decide (k≠x))=[]:=by simp[h2]
    rw[this,Bv];exact hu
  .rw[Az DT] at hu;simp only[AA,Bi,hvl,show¬(k:Int)<(l.length:Int) by omega];exact⟨_,rfl,hu⟩
 obtain⟨r,h',hr,hu,rfl⟩:=H5.ret;exact⟨r,hr,hu⟩
theorem aHA(w:RA h a n i ps A)(hx:A.has x)(hb:∀y,(A.nd y).AZ.length<=1000000000){e:Int}(ok:Ew A e):∃h' IB,BI cx 258 [Pt a 0,I x] h (I 0) h'/\RA h' a n i IB (A.cut x)/\Dh h (IC a n i) h' (IC a n i):=by
 by_cases hp:(A.nd x).Fa=0;·refine⟨h,ps,?_,by unfold Ar.cut;simp only;rw[if_pos hp];exact w,.refl⟩;rw[Ab,oL,aBy];simp only[AA,Bi,(Hd (x:=x) w).call,AD hx,w.nodes,w.addr hx,w.f1 hx,hp,ne_eq]
 .obtain⟨hq,_⟩:=ok.Fa x hx hp;obtain⟨q,eq⟩:∃q,q=(A.nd x).Fa:=⟨_,rfl⟩;rw[<-eq] at hp hq;obtain⟨u,r1,hu⟩:=aHz (w.LD hq) (hb q) x h;obtain⟨h1,s1,w1,x1,l1⟩:=w.wr hq (k:=2) (by decide) (v:=u) (AM.cells hu) (p:=⟨{A.nd q with AZ:=(A.nd q).AZ.filter λk=>decide (k≠x)},u,(pR ps q).av,hu,w.ag hq⟩) (by simp only[RN.row];rw[(w.pn hq).2];rfl);have NA:(A.set q {A.nd q with AZ:=(A.nd q).AZ.filter λk=>decide (k≠x)}).has x:=HC.2 hx;have WR:=(w1.pn NA).2;obtain⟨h2,s2,w2,x2,l2⟩:=w1.wr NA (k:=1) (by decide) (v:=I 0) rfl (p:=⟨{(A.set q {A.nd q with AZ:=(A.nd q).AZ.filter λk=>decide (k≠x)}).nd x with Fa:=0},(pR _ x).kv,(pR _ x).av,w1.LD NA,w1.ag NA⟩) (by simp only[RN.row];rw[WR];rfl);have hA:A.cut x=(A.set q {A.nd q with AZ:=(A.nd q).AZ.filter λk=>decide (k≠x)}).set x {(A.set q {A.nd q with AZ:=(A.nd q).AZ.filter λk=>decide (k≠x)}).nd x with Fa:=0}:=by unfold Ar.cut;simp only;rw[<-eq,if_neg hp]
  refine⟨h2,_,?_,by rw[hA];exact w2,x1.trans x2⟩;have e1:(A.nd x).Fa=q:=eq.symm;have nd1:=w1.nodes;have ad1:=w1.addr NA;rw[Be] at nd1 ad1;rw[Ab,oL,aBy];simp only[AA,Bi,(Hd (x:=x) w).call,AD hx,w.nodes,w.addr hx,w.f1 hx,e1,hp,ne_eq,w.addr hq,w.f2 hq,r1.call,Bx,s1,nd1,s2]
open Classical in
theorem aHB{p b e:Int}(w:RA h a n i ps A)(ok:Ew A e):∃er:Int,BI cx 257 [Pt a 0,I p,I x,I b] h (I er) h/\(er=0↔xQ A p x b):=by
 by_cases hp:A.has p;rotate_left;·refine⟨3,?_,⟨λh=>absurd h (by decide),λf=>absurd f.hp hp⟩⟩;rw[Ab,Jj,Tu];simp only[AA,Bi,(Hd (x:=p) w).call,AB hp,AQ]
 by_cases hx:A.has x;rotate_left;·refine⟨3,?_,⟨λh=>absurd h (by decide),λf=>absurd f.hn hx⟩⟩;rw[Ab,Jj,Tu];simp only[AA,Bi,(Hd (x:=p) w).call,AD hp,(Hd (x:=x) w).call,AB hx,AQ]
 by_cases hb:b≠0/\¬A.has b;·refine⟨3,?_,⟨λh=>absurd h (by decide),λf=>absurd (f.hb hb.1).1 hb.2⟩⟩;rw[Ab,Jj,Tu];simp only[AA,Bi,(Hd (x:=p) w).call,AD hp,(Hd (x:=x) w).call,AD hx,ne_eq,hb.1,(Hd (x:=b) w).call,AB hb.2,AQ]
 have hbh:b≠0->A.has b:=λh0=>by
  by_cases h1:A.has b;·exact h1
  .exact absurd ⟨h0,h1⟩ hb
 have first:∀(Q:Post) (k:EN->List Aa->IT),W cx (k .normal [ff]) Q h->W cx (.Di 200001 (.call 164 [Pt a 0,I p] λv0=> .op (.un .not) [v0] λv1=> .AJ v1 (.ret .normal [tt]) (.call 164 [Pt a 0,I x] λv2=> .op (.un .not) [v2] λv3=> .AJ v3 (.ret .normal [tt]) (.op (.int .neq) [I b,I 0] λv4=> .AJ v4 (.call 164 [Pt a 0,I b] λv5=> .op (.un .not) [v5] λv6=> .ret .normal [v6]) (.ret .normal [ff])))) k) Q h:=by
  intro Q k hk;by_cases h0:b=0;·simp only[AA,Bi,(Hd (x:=p) w).call,AD hp,(Hd (x:=x) w).call,AD hx,ne_eq,h0,AQ];exact hk
  .simp only[AA,Bi,(Hd (x:=p) w).call,AD hp,(Hd (x:=x) w).call,AD hx,ne_eq,h0,(Hd (x:=b) w).call,AD (hbh h0),AQ];exact hk
 by_cases kp:Ke (A.nd p).kind;rotate_left
 .refine⟨4,?_,⟨λh=>absurd h (by decide),λf=>absurd f.kp kp⟩⟩;unfold Ke at kp;have k1:¬(A.nd p).kind=1:=λe=>kp (.inl e);have k2:¬(A.nd p).kind=2:=λe=>kp (.inr (.inl e));have k4:¬(A.nd p).kind=4:=λe=>kp (.inr (.inr e));rw[Ab,Jj,Tu];refine first _ _ ?_
  simp only[AA,Bi,w.nodes,w.addr hp,w.f0 hp,w.addr hx,w.f0 hx,AQ,ne_eq,k1,k2,k4]
 by_cases n1:(A.nd x).kind=1
 .refine⟨4,?_,⟨λh=>absurd h (by decide),λf=>absurd n1 f.kn.1⟩⟩;rw[Ab,Jj,Tu];refine first _ _ ?_
  rcases kp with kp|kp|kp<;>simp only[AA,Bi,w.nodes,w.addr hp,w.f0 hp,w.addr hx,w.f0 hx,AQ,ne_eq,show¬(2:Int)=1 by decide,show¬(4:Int)=1 by decide,show¬(4:Int)=2 by decide,kp,n1]
 by_cases n2:(A.nd x).kind=2
 .refine⟨4,?_,⟨λh=>absurd h (by decide),λf=>absurd n2 f.kn.2⟩⟩;rw[Ab,Jj,Tu];refine first _ _ ?_
  rcases kp with kp|kp|kp<;>simp only[AA,Bi,w.nodes,w.addr hp,w.f0 hp,w.addr hx,w.f0 hx,AQ,ne_eq,show¬(2:Int)=1 by decide,show¬(4:Int)=1 by decide,show¬(4:Int)=2 by decide,kp,n2]
 have rc:=aHy w ok hx hp;by_cases re:Reach A x p
 .refine⟨4,?_,⟨λh=>absurd h (by decide),λf=>absurd re f.re⟩⟩;rw[AD re] at rc;rw[Ab,Jj,Tu];refine first _ _ ?_
  rcases kp with kp|kp|kp<;>simp only[AA,Bi,w.nodes,w.addr hp,w.f0 hp,w.addr hx,w.f0 hx,AQ,ne_eq,show¬(2:Int)=1 by decide,show¬(4:Int)=1 by decide,show¬(4:Int)=2 by decide,kp,n1,n2,rc.call]
 rw[AB re] at rc;by_cases b0:b=0
 .refine⟨0,?_,⟨λ_=>⟨hp,hx,λh=>absurd b0 h,kp,⟨n1,n2⟩,re⟩,λ_=>rfl⟩⟩;rw[Ab,Jj,Tu];refine first _ _ ?_
  rcases kp with kp|kp|kp<;>simp only[AA,Bi,w.nodes,w.addr hp,w.f0 hp,w.addr hx,w.f0 hx,AQ,ne_eq,show¬(2:Int)=1 by decide,show¬(4:Int)=1 by decide,show¬(4:Int)=2 by decide,kp,n1,n2,rc.call,b0]
 by_cases bx:b=x
 .refine⟨5,?_,⟨λh=>absurd h (by decide),λf=>absurd bx (f.hb b0).2.1⟩⟩;rw[Ab,Jj,Tu];refine first _ _ ?_
  have Mj:¬x=0:=by rw[<-bx];exact b0
  rcases kp with kp|kp|kp<;>simp only[AA,Bi,w.nodes,w.addr hp,w.f0 hp,w.addr hx,w.f0 hx,AQ,ne_eq,show¬(2:Int)=1 by decide,show¬(4:Int)=1 by decide,show¬(4:Int)=2 by decide,kp,n1,n2,rc.call,bx,Mj]
 have Pg:=hbh b0;by_cases bp:(A.nd b).Fa=p
 .refine⟨0,?_,⟨λ_=>⟨hp,hx,λh=>⟨Pg,bx,bp⟩,kp,⟨n1,n2⟩,re⟩,λ_=>rfl⟩⟩;rw[Ab,Jj,Tu];refine first _ _ ?_
  rcases kp with kp|kp|kp<;>simp only[AA,Bi,w.nodes,w.addr hp,w.f0 hp,w.addr hx,w.f0 hx,AQ,ne_eq,show¬(2:Int)=1 by decide,show¬(4:Int)=1 by decide,show¬(4:Int)=2 by decide,kp,n1,n2,rc.call,b0,bx,w.addr Pg,w.f1 Pg,AW bp]
 .refine⟨5,?_,⟨λh=>absurd h (by decide),λf=>absurd (f.hb b0).2.2 bp⟩⟩;rw[Ab,Jj,Tu];refine first _ _ ?_
  rcases kp with kp|kp|kp<;>simp only[AA,Bi,w.nodes,w.addr hp,w.f0 hp,w.addr hx,w.f0 hx,AQ,ne_eq,show¬(2:Int)=1 by decide,show¬(4:Int)=1 by decide,show¬(4:Int)=2 by decide,kp,n1,n2,rc.call,b0,bx,w.addr Pg,w.f1 Pg,bp]
def Pb(b x:Int)(l:List Int):List Int:=l.flatMap λk=>if k=b then[x,k] else[k]
theorem Sp{b x:Int}:∀{l:List Int},b∉l->Pb b x l=l
 |[],_=>rfl
 |y::l,h=>by have h1:¬y=b:=λe=>h (by simp[e]);have h2:b∉l:=λe=>h (by simp[e]);have:=Sp (x:=x) h2;unfold Pb at this⊢;rw[dY,if_neg h1,this];rfl
theorem dK{b x:Int}:∀{l:List Int},l.Nodup->b∈l->Pb b x l=l.takeWhile (λk=>decide (k≠b))++x::l.dropWhile (λk=>decide (k≠b))
 |[],_,h=>by cases h
 |y::l,hn,h=>by
  rw[BY] at hn;by_cases h1:y=b;·subst h1;have:=Sp (x:=x) hn.1;unfold Pb at this⊢;rw[dY,if_pos rfl,this];simp
  .have h2:b∈l:=by rcases AP.1 h with h|h;exact absurd h.symm h1;exact h
   have:=dK (x:=x) hn.2 h2;unfold Pb at this⊢;rw[dY,if_neg h1,this,List.takeWhile_cons,List.dropWhile_cons];simp[h1]
theorem dL{b x:Int}{l:List Int}:(Pb b x l).length<=2*l.length:=by
 induction l with
 |nil=>simp[Pb]
 |cons y l ih=>unfold Pb at ih⊢;rw[dY,Ao,Bf];split<;>simp only[Bf,BU]<;>omega
theorem tE{b x y:Int}{l:List Int}:Pb b x (l++[y])=Pb b x l++if y=b then[x,y] else[y]:=by unfold Pb;rw[List.flatMap_append];simp
open Classical in
theorem aHC{p b e:Int}(w:RA h a n i ps A)(ok:Ew A e)(hb:∀y,(A.nd y).AZ.length<=900000000):∃er h' IB,BI cx 187 [Pt a 0,I p,I x,I b] h (I er) h'/\RA h' a n i IB (A.Fg p x b)/\Dh h (IC a n i) h' (IC a n i):=by
 obtain⟨er,r1,her⟩:=aHB (p:=p) (x:=x) (b:=b) w ok;by_cases hf:xQ A p x b;rotate_left;·have h0:¬er=0:=λh=>hf (her.1 h);refine⟨er,h,ps,?_,by rw[M9 hf];exact w,.refl⟩;rw[Ab,nK,aA9];simp only[AA,Bi,r1.call,ne_eq,h0]
 have h0:=her.2 hf;subst h0;obtain⟨h1,ZK,r2,w1,x1⟩:=aHA w hf.hn (λy=>Bt (hb y) (by decide)) ok;have dh:((A.cut x).nd p).AZ.Nodup/\(b≠0->b∈((A.cut x).nd p).AZ)/\((A.cut x).nd p).AZ.length<=900000000/\(0:Int)∉((A.cut x).nd p).AZ/\(A.cut x).has p/\(A.cut x).has x:=by
  have TD:=gW ok hf.hn hf.kn.2;have O8:(A.cut x).has p:=J1.2 hf.hp;refine⟨(TD.Q2 p O8).rQ,λh0=>?_,?_,λh0=>?_,O8,J1.2 hf.hn⟩
  .obtain⟨b1,b2,b3⟩:=hf.hb h0;have a_:((A.cut x).nd b).Fa=p:=by rw[P9 ok hf.hn,if_neg b2];split<;>exact b3
   have:=(TD.Fa b (J1.2 b1) (by rw[a_];have:=hf.hp.1;omega)).2;rwa [a_] at this
  .have h1:=hb p;have h2:=hb x;rw[P9 ok hf.hn];split;·exact h2
   .split;·exact Bt (List.length_filter_le _ _) h1
    .exact h1
  .have:=(TD.LD p O8 0 h0).1.1;omega
 obtain⟨dh,hbm,qi,hz,O8,NA⟩:=dh;generalize hA1:A.cut x=A1 at*;have H5:Ev cx 187 [Pt a 0,I p,I x,I b] h λr h'=>r=I 0/\∃IB,RA h' a n i IB (A.Fg p x b)/\Dh h (IC a n i) h' (IC a n i):=by
  have hm:AT=140737488355328:=rfl;unfold Ev;rw[nK,aA9];simp only[AA,Bi,r1.call,ne_eq,r2.call];have Wr:=w1.LD O8;have lk:=AM.Cp Wr;refine Db (i:=0) (λs:Aa×Nat=>[s.1,I (s.2:Int)]) (λs h2=>s.2<=(A1.nd p).AZ.length/\Df (Pb b x ((A1.nd p).AZ.take s.2)) s.1/\h2=h1) (λs=>(A1.nd p).AZ.length-s.2) (λs h2=>Df (Pb b x (A1.nd p).AZ) s.1/\h2=h1) (.slnil,0) rfl ⟨AO _,.inr ⟨rfl,rfl⟩,rfl⟩ ?_ ?_
  .rintro⟨u,k⟩ h2 ⟨hk,hu,rfl⟩;simp only at hk hu;rcases AN k (A1.nd p).AZ.length with hlt|DT
   .have e1:=AM.BA (k:= .i64) Wr hlt;rw[B6] at e1;have ZE:=dL (b:=b) (x:=x) (l:=(A1.nd p).AZ.take k);rw[Al] at ZE;have em1:Aw (.By 1) [I x]=some (.sl 1 [B6 x]):=rfl;have sP:Aw (.By 1) [I (A1.nd p).AZ[k]]=some (.sl 1 [B6 (A1.nd p).AZ[k]]):=rfl;have hs:=tE (b:=b) (x:=x) (y:=(A1.nd p).AZ[k]) (l:=(A1.nd p).AZ.take k);rw[<-Av hlt] at hs;by_cases fg:(A1.nd p).AZ[k]=b;·have a1:=AM.Jg (b:=8) (a:=x) hu (by omega);have Ny:Df (Pb b x ((A1.nd p).AZ.take k)++[x]) (.sl 1 ((Pb b x ((A1.nd p).AZ.take k)++[x]).map B6)):= .mk;have a2:=AM.Jg (b:=8) (a:=(A1.nd p).AZ[k]) Ny (by rw[Ao,Bc];omega);rw[if_pos fg,show[x,(A1.nd p).AZ[k]]=[x]++[(A1.nd p).AZ[k]] from rfl,<-Ax] at hs;simp only[AA,Bi,w1.nodes,w1.addr O8,w1.f2 O8,lk,show(k:Int)<((A1.nd p).AZ.length:Int) by omega,e1,AW fg,em1,a1,sP,a2,AQ,BB (show k<9223372036854775807 by omega)];exact .next (_,k+1) rfl ⟨hlt,by rw[hs];exact .mk,rfl⟩ (by simp only;omega)
    .have a2:=AM.Jg (b:=8) (a:=(A1.nd p).AZ[k]) hu (by omega);rw[if_neg fg] at hs;simp only[AA,Bi,w1.nodes,w1.addr O8,w1.f2 O8,lk,show(k:Int)<((A1.nd p).AZ.length:Int) by omega,e1,fg,sP,a2,AQ,BB (show k<9223372036854775807 by omega)];exact .next (_,k+1) rfl ⟨hlt,by rw[hs];exact .mk,rfl⟩ (by simp only;omega)
   .rw[Az DT] at hu;simp only[AA,Bi,w1.nodes,w1.addr O8,w1.f2 O8,lk,show¬(k:Int)<((A1.nd p).AZ.length:Int) by omega];exact .GM (u,k) rfl ⟨hu,rfl⟩
  .rintro⟨u,k⟩ h2 ⟨hu,rfl⟩;simp only at hu;obtain⟨u2,HU,hw⟩:∃u2,Df (Il (A1.nd p).AZ b x) u2/\(b=0->Aw (.append 1 8) [u,.sl 1 [B6 x]]=some u2)/\(b≠0->u2=u):=by
    have ZE:=dL (b:=b) (x:=x) (l:=(A1.nd p).AZ);by_cases h0:b=0;·have a1:=AM.Jg (b:=8) (a:=x) hu (by omega);refine⟨_,?_,λ_=>a1,λh=>absurd h0 h⟩;have e:Pb b x (A1.nd p).AZ=(A1.nd p).AZ:=Sp (by rw[h0];exact hz);rw[e];unfold Il;rw[if_pos h0];exact .mk
    .refine⟨u,?_,λh=>absurd h h0,λ_=>rfl⟩;unfold Il;rw[if_neg h0,<-dK dh (hbm h0)];exact hu
   obtain⟨h3,s3,w3,x3,_⟩:=w1.wr O8 (k:=2) (by decide) (v:=u2) (AM.cells HU) (p:=⟨{A1.nd p with AZ:=Il (A1.nd p).AZ b x},u2,(pR ZK p).av,HU,w1.ag O8⟩) (by simp only[RN.row];rw[(w1.pn O8).2];rfl);have qo:(A1.set p {A1.nd p with AZ:=Il (A1.nd p).AZ b x}).has x:=HC.2 NA;have WR:=(w3.pn qo).2;obtain⟨h4,s4,w4,x4,_⟩:=w3.wr qo (k:=1) (by decide) (v:= I p) rfl (p:=⟨{(A1.set p {A1.nd p with AZ:=Il (A1.nd p).AZ b x}).nd x with Fa:=p},(pR _ x).kv,(pR _ x).av,w3.LD qo,w3.ag qo⟩) (by simp only[RN.row];rw[WR];rfl);have hA:A.Fg p x b=(A1.set p {A1.nd p with AZ:=Il (A1.nd p).AZ b x}).set x {(A1.set p {A1.nd p with AZ:=Il (A1.nd p).AZ b x}).nd x with Fa:=p}:=by unfold Ar.Fg;rw[if_pos hf,hA1];rfl
   have nd3:=w3.nodes;have ad3:=w3.addr qo;rw[Be] at nd3 ad3;have em1:Aw (.By 1) [I x]=some (.sl 1 [B6 x]):=rfl;by_cases h0:b=0;·have a1:=hw.1 h0;simp only[AA,Bi,AW h0,em1,a1,AQ,w1.nodes,w1.addr O8,s3,nd3,ad3,s4];exact⟨_,rfl,rfl,_,by rw[hA];exact w4,(x1.trans x3).trans x4⟩
   .have e2:=hw.2 h0;subst e2;simp only[AA,Bi,h0,AQ,w1.nodes,w1.addr O8,s3,nd3,ad3,s4];exact⟨_,rfl,rfl,_,by rw[hA];exact w4,(x1.trans x3).trans x4⟩
 obtain⟨r,h',hr,rfl,IB,w',x'⟩:=H5.ret;exact⟨0,h',IB,hr,w',x'⟩
end
section
variable{h h':Ag}{a n i:Nat}{ps:List RN}{A:Ar}{x:Int}{G:Nat->Prop}
theorem pQ(s:Int):JI cx 78 [I s] (.bool (decide (BS.Hq s))):=by rw[LV,aAr,t78];by_cases h1:0<=s<;>by_cases h2:s<=7<;>simp[h1,h2,BS.Hq]
theorem pS(w:RA h a n i ps A)(hl:A.len<=1000000000)(p:RN):∃h' n' i',BI cx 97 [Pt a 0,.agg p.row] h (I (A.len+1)) h'/\RA h' a n' i' (ps++[p]) (A.add p.x)/\Dh h (IC a n i) h' (IC a n' i'):=by
 have hm:AT=140737488355328:=rfl;have hlen:=w.len;have XV:=w.il;have ZE:ps.length<=1000000000:=by unfold Ar.len at hl;omega
 have g1:=IJ (b:=168) (Au:=(RN.z::ps).map RN.row) (r2:=[p.row]) (v:= .sl 13 [p.row]) (bz _) (by decide) w.hn .mk (by simp) (by simp;omega);have e1:((RN.z::ps).map RN.row).length=ps.length+1:=by simp
 rw[e1,Bc] at g1;have el1:(h.set n .CH++[C6.cells ((RN.z::ps).map RN.row++[p.row]).flatten]).length=h.length+1:=by simp
 have er1:(h.set n .CH++[C6.cells ((RN.z::ps).map RN.row++[p.row]).flatten])[h.length]?=some (.cells ((RN.z::(ps++[p])).map RN.row).flatten):=by rw[A5 (by simp)];simp
 have hal:=w.lt (.inl rfl);have aMo:=w.lt (.inr (.inr rfl));have Nx:=w.lt (.inr (.inl rfl));have a1:(h.set n .CH++[C6.cells ((RN.z::ps).map RN.row++[p.row]).flatten])[a]?=some (.cells [.Ck n 0 (ps.length+1) 13,.Ck i 0 (ps.length+1) 1]):=by rw[Ad (by simpa using hal),Af (DS w.d.1)];exact w.ha
 have i1:(h.set n .CH++[C6.cells ((RN.z::ps).map RN.row++[p.row]).flatten])[i]?=some (.cells ((0::A.i).map (Aa.int .i64))):=by rw[Ad (by simpa using aMo),Af w.d.2.2];exact w.hi
 have o1:∀j,j<h.length->j≠n->(h.set n .CH++[C6.cells ((RN.z::ps).map RN.row++[p.row]).flatten])[j]?=h[j]?:=λj hj hn=>by rw[Ad (by simpa using hj),Af (DS hn)]
 generalize h.set n .CH++[C6.cells ((RN.z::ps).map RN.row++[p.row]).flatten]=h1 at*;have t1:At h1 a 0 _:=⟨_,a1,rfl⟩;have s1:=t1.store (u:= .Ck h.length 0 (ps.length+1+1) 13) rfl;have a2:=Hk (k:=0) (v:= .Ck h.length 0 (ps.length+1+1) 13) a1;have n2:(put h1 a 0 (.Ck h.length 0 (ps.length+1+1) 13))[h.length]?=_:=(B4 (by omega)).trans er1;have i2:(put h1 a 0 (.Ck h.length 0 (ps.length+1+1) 13))[i]?=_:=(B4 (DS w.d.2.1)).trans i1;have o2:∀j,j<h.length->j≠n->j≠a->(put h1 a 0 (.Ck h.length 0 (ps.length+1+1) 13))[j]?=h[j]?:=λj hj hn ha=>(B4 ha).trans (o1 j hj hn);have el2:(put h1 a 0 (.Ck h.length 0 (ps.length+1+1) 13)).length=h.length+1:=by rw[IE,el1]
 generalize put h1 a 0 (.Ck h.length 0 (ps.length+1+1) 13)=h2 at*;have l2:A9 h2 none (Pt a 1)=some (.Ck i 0 (ps.length+1) 1):=At.load ⟨_,a2,rfl⟩;have g2:=IJ (b:=8) (h:=h2) (id:=i) (Au:=(0::A.i).map B6) (r2:=[B6 0]) (v:= .sl 1 [[I 0]]) (Kd (f:=B6) (λ_=>rfl) _) (by decide) (by rw[My];exact i2) (.inl rfl) (by simp) (by simp;omega);have e2:((0::A.i).map B6).length=ps.length+1:=by simp;omega
 rw[e2,Bc,el2] at g2;have aMp:a<h2.length:=by omega
 have a3:(h2.set i .CH++[C6.cells ((0::A.i).map B6++[B6 0]).flatten])[a]?=_:=((Ad (by simpa using aMp)).trans (Af (DS w.d.2.1))).trans a2;have n3:(h2.set i .CH++[C6.cells ((0::A.i).map B6++[B6 0]).flatten])[h.length]?=_:=((Ad (by simp;omega)).trans (Af (by omega))).trans n2;have i3:(h2.set i .CH++[C6.cells ((0::A.i).map B6++[B6 0]).flatten])[h.length+1]?=some (.cells ((0::(A.i++[0])).map (Aa.int .i64))):=by rw[A5 (by simp;omega)];simp only[Be,el2,CY,JR];rw[<-My];simp
 have o3:∀j,j<h.length->j≠n->j≠a->j≠i->(h2.set i .CH++[C6.cells ((0::A.i).map B6++[B6 0]).flatten])[j]?=h[j]?:=λj hj hn ha hi=>((Ad (by simp;omega)).trans (Af (DS hi))).trans (o2 j hj hn ha)
 have el3:(h2.set i .CH++[C6.cells ((0::A.i).map B6++[B6 0]).flatten]).length=h.length+2:=by simp;omega
 generalize h2.set i .CH++[C6.cells ((0::A.i).map B6++[B6 0]).flatten]=h3 at*;have t3:At h3 a 1 (.Ck i 0 (ps.length+1) 1):=⟨_,a3,rfl⟩;have s3:=t3.store (u:= .Ck (h.length+1) 0 (ps.length+1+1) 1) rfl;have a4:=Hk (k:=1) (v:= .Ck (h.length+1) 0 (ps.length+1+1) 1) a3;have l4:A9 (put h3 a 1 (.Ck (h.length+1) 0 (ps.length+1+1) 1)) none (Pt a 0)=some (.Ck h.length 0 (ps.length+1+1) 13):=At.load ⟨_,a4,rfl⟩;refine⟨put h3 a 1 (.Ck (h.length+1) 0 (ps.length+1+1) 1),h.length,h.length+1,?_,⟨?_,?_,?_,?_,?_,?_⟩,⟨by rw[IE];omega,λj hj hn=>?_,λj hj=>?_⟩⟩
 .have em:Aw (.By 13) [.agg p.row]=some (.sl 13 [p.row]):=rfl;have sP:Aw (.By 1) [I 0]=some (.sl 1 [[I 0]]):=rfl;have hd:=Ho (n:=ps.length+1+1) (by omega) (by omega);have hA:A.len+1=((ps.length+1+1 -1:Nat):Int):=by unfold Ar.len;omega
  have lm:Aw (.len false) [.Ck h.length 0 (ps.length+1+1) 13]=some (I ((ps.length+1+1:Nat):Int)):=rfl;rw[RN.row] at em g1;rw[Ab,aAu,t97,RN.row,hA];simp only[AA,Bi,w.nodes,em,g1,s1,l2,sP,g2,s3,l4,lm,hd]
 .unfold Ar.add;simp only;rw[w.e,BE];rfl
 .unfold Ar.add;simp only[Ao,Bc];omega
 .rw[a4,Ao];rfl
 .rw[B4 (by omega)];exact n3
 .rw[B4 (by omega)];exact i3
 .exact⟨by omega,by omega,by omega⟩
 .have h1:j≠a:=λe=>hn (.inl e);have h2:j≠n:=λe=>hn (.inr (.inl e));have h3:j≠i:=λe=>hn (.inr (.inr e));rw[B4 h1];exact o3 j hj h2 h1 h3
 .rcases hj with rfl|rfl|rfl
  .exact .inl (.inl rfl)
  .exact .inr (Ac _)
  .exact .inr (Gf _)
theorem xi{v:Aa}{l:List AU}(hv:Bz l v)(hb:l.length<=1000000000)(hs:∀y∈l,BS.Hq y.A0)(h:Ag):BI cx 79 [v] h (.bool true) h:=by
 rw[Ab,aAs,t79];refine Bd (λk:Nat=>[ff,I (k:Int)]) (λk h1=>k<=l.length/\h1=h) (λk=>l.length-k) 0 rfl ⟨AO _,rfl⟩ ?_;rintro k h1 ⟨hk,rfl⟩;have hvl:=AM.Cp hv;rcases AN k l.length with hlt|DT
 .have e1:=AM.BA (k:= .i64) hv hlt;rw[AU.row] at e1;have r1:∀{Q:Post} {h:Ag} {kk:Aa->IT},W cx (.Bk 78 [I l[k].A0] kk) Q h↔W cx (kk (.bool (decide (BS.Hq l[k].A0)))) Q h:=(pQ _).Bk rfl rfl;simp only[AA,Bi,hvl,show(k:Int)<(l.length:Int) by omega,e1,r1,AD (hs _ (AI hlt)),BB (show k<9223372036854775807 by omega)];exact AF.next (k+1) rfl ⟨hlt,rfl⟩ (by omega)
 .simp only[AA,Bi,hvl,show¬(k:Int)<(l.length:Int) by omega]
theorem xj{v:Aa}{l:List AU}(hv:Bz l v)(hb:l.length<=1000000000)(h:Ag):∃u,BI cx 80 [v] h u h/\Bz (Cg l) u:=by
 have hm:AT=140737488355328:=rfl;have hvl:=AM.Cp hv;have H5:Ev cx 80 [v] h λr h'=>Bz (Cg l) r/\h'=h:=by
  unfold Ev;rw[aAt,t80];refine Bd (λs:Aa×Nat=>[s.1,I (s.2:Int)]) (λs h1=>s.2<=l.length/\Bz (Cg (l.take s.2)) s.1/\h1=h) (λs=>l.length-s.2) (.slnil,0) rfl ⟨AO _,.inr ⟨rfl,rfl⟩,rfl⟩ ?_;rintro⟨u,k⟩ h1 ⟨hk,hu,rfl⟩;simp only at hk hu;rcases AN k l.length with hlt|DT
  .have UC:=AM.Cp hu;have tT:=OS (l:=l.take k);rw[Al] at tT;have e1:=AM.BA (k:= .i64) hv hlt;rw[AU.row] at e1;simp only[AA,↓reduceIte,Bi,hvl,show(k:Int)<(l.length:Int) by omega];refine Db (i:=2) (λj:Nat=>[.bool (((Cg (l.take k)).take j).any λz=>decide (Da l[k]=Da z)),I (j:Int)]) (λj h2=>j<=(Cg (l.take k)).length/\h2=h1) (λj=>(Cg (l.take k)).length-j) (λj h2=>j=(Cg (l.take k)).length/\h2=h1) 0 rfl ⟨AO _,rfl⟩ ?_ ?_
   .rintro j h2 ⟨hj,rfl⟩;rcases AN j (Cg (l.take k)).length with hlj|hgj
    .have e2:=AM.BA (k:= .i64) hu hlj;rw[AU.row] at e2;have es:((Cg (l.take k)).take (j+1)).any (λz=>decide (Da l[k]=Da z))=(((Cg (l.take k)).take j).any (λz=>decide (Da l[k]=Da z))||decide (Da l[k]=Da (Cg (l.take k))[j])):=by rw[Av hlj,List.any_append];simp
     by_cases c1:(Cg (l.take k))[j].A0=l[k].A0
     .by_cases c2:(Cg (l.take k))[j].name=l[k].name
      .have hky:decide (Da l[k]=Da (Cg (l.take k))[j])=true:=by simp[Da,c1,c2]
       simp only[AA,Bi,UC,show(j:Int)<((Cg (l.take k)).length:Int) by omega,e1,e2,AW c1,AD c2,BB (show j<9223372036854775807 by omega)];exact .next (j+1) (by rw[es,hky,Bool.or_true]) ⟨hlj,rfl⟩ (by omega)
      .have hky:decide (Da l[k]=Da (Cg (l.take k))[j])=false:=by simp[Da];exact λ_ h=>c2 h.symm
       simp only[AA,Bi,UC,show(j:Int)<((Cg (l.take k)).length:Int) by omega,e1,e2,AW c1,AB c2,BB (show j<9223372036854775807 by omega)];exact .next (j+1) (by rw[es,hky,Bool.or_false]) ⟨hlj,rfl⟩ (by omega)
     .have hky:decide (Da l[k]=Da (Cg (l.take k))[j])=false:=by simp[Da];exact λh=>absurd h.symm c1
      simp only[AA,Bi,UC,show(j:Int)<((Cg (l.take k)).length:Int) by omega,e1,e2,c1,BB (show j<9223372036854775807 by omega)];exact .next (j+1) (by rw[es,hky,Bool.or_false]) ⟨hlj,rfl⟩ (by omega)
    .simp only[AA,Bi,UC,show¬(j:Int)<((Cg (l.take k)).length:Int) by omega];exact .GM j rfl ⟨by omega,rfl⟩
   .rintro j h2 ⟨rfl,rfl⟩;have e3:Cg (l.take (k+1))=if(Cg (l.take k)).any (λz=>decide (Da l[k]=Da z)) then Cg (l.take k) else Cg (l.take k)++[l[k]]:=by rw[Av hlt];exact O1
    have em:Aw (.By 3) [.agg [I l[k].A0,.str l[k].name,.str l[k].value]]=some (.sl 3 [[I l[k].A0,.str l[k].name,.str l[k].value]]):=rfl;have a1:=AM.Jg (f:=AU.row) (b:=40) (a:=l[k]) hu (by omega);rw[AU.row] at a1;rw[Bu];cases hq:(Cg (l.take k)).any (λz=>decide (Da l[k]=Da z)) with
    |true=>rw[if_pos hq] at e3;simp only[AA,↓reduceIte,Bi,BB (show k<9223372036854775807 by omega)];exact AF.next (u,k+1) rfl ⟨hlt,by rw[e3];exact hu,rfl⟩ (by simp only;omega)
    |false=>rw[if_neg (by rw[hq];decide)] at e3;simp only[AA,Nat.reduceLeDiff,↓reduceIte,Bi,e1,em,a1,BB (show k<9223372036854775807 by omega)];exact AF.next (_,k+1) rfl ⟨hlt,by rw[e3];exact .mk,rfl⟩ (by simp only;omega)
  .rw[Az DT] at hu;simp only[AA,↓reduceIte,Bi,hvl,show¬(k:Int)<(l.length:Int) by omega];exact⟨_,rfl,hu⟩
 obtain⟨r,h',hr,hu,rfl⟩:=H5.ret;exact⟨r,hr,hu⟩
end
section
variable{h h':Ag}{a n i:Nat}{ps:List RN}{A:Ar}{x d:Int}{G:Nat->Prop}
theorem pT(w:RA h a n i ps A)(hd:A.has d)(hk:(A.nd d).kind=1):BI cx 102 [Pt a 0,I d] h (I 0) h:=by rw[Ab,ju,aEC];simp only[AA,Bi,(Hd (x:=d) w).call,AD hd,w.nodes,w.addr hd,w.f0 hd,hk,ne_eq]
theorem aHH(w:RA h a n i ps A)(hl:A.len<=1000000000)(hd:A.has d)(hk:(A.nd d).kind=1)(k:Int)(s:As):
  ∃h' n' i' IB,BI cx 209 [Pt a 0,I d,.agg [I k,I 0,.slnil,I 0,I 0,S [],.slnil,.str s,S [],S [],ff,I 0,I 0]] h (.tuple [I (A.len+1),I 0]) h'/\RA h' a n' i' IB (A.add {kind:=k,Cz:=d,data:=s})/\Dh h (IC a n i) h' (IC a n' i'):=by
 obtain⟨h1,n1,i1,r1,w1,x1⟩:=pS w hl ⟨{kind:=k,Cz:=d,data:=s},.slnil,.slnil,.inr ⟨rfl,rfl⟩,.inr ⟨rfl,rfl⟩⟩;refine⟨h1,n1,i1,_,?_,w1,x1⟩;rw[RN.row] at r1;rw[Ab,mn,aE6];simp only[AA,Bi,(pT w hd hk).call,r1.call,ne_eq]
theorem aHI(w:RA h a n i ps A)(hl:A.len<=1000000000)(q:Bool):
  ∃h' n' i' IB,BI cx 37 [Pt a 0,.bool q] h (I (A.len+1)) h'/\RA h' a n' i' IB (A.add {kind:=1,Cz:=A.len+1,Cr:=q})/\Dh h (IC a n i) h' (IC a n' i'):=by
 obtain⟨h1,n1,i1,r1,w1,x1⟩:=pS w hl ⟨{kind:=1,Cz:=A.len+1,Cr:=q},.slnil,.slnil,.inr ⟨rfl,rfl⟩,.inr ⟨rfl,rfl⟩⟩;refine⟨h1,n1,i1,_,?_,w1,x1⟩;have hn:=w.len;have e:((ps.length+1:Nat):Int)=A.len+1:=by unfold Ar.len;omega
 have lm:Aw (.len false) [.Ck n 0 (ps.length+1) 13]=some (I (A.len+1)):=by rw[<-e];rfl
 rw[RN.row] at r1;rw[Ab,aAe,t37];simp only[AA,Nat.reduceLeDiff,↓reduceIte,AK,Bi,w.nodes,lm,r1.call]
theorem RA.pU(w:RA h a n i ps A)(hx:A.has x):Aw (.EE 1) [.Ck i 0 (ps.length+1) 1,I x]=some (Pt i x.toNat):=by obtain⟨h1,h2⟩:=w.at hx;have:=DO (k:= .i64) (id:=i) (z:=1) h1;rwa [h2,I8] at this
theorem RA.iat(w:RA h a n i ps A)(hx:A.has x):At h i x.toNat (I (A.inr x)):=by obtain⟨h1,h2⟩:=w.at hx;have h3:=hx.1;have hl:=w.len;have XV:=w.il;refine⟨_,w.hi,?_⟩;obtain⟨k,hk⟩:∃k,x.toNat=k+1:=⟨x.toNat-1,by omega⟩;rw[hk,Bm,tN,Cc];unfold Ar.inr;rw[if_pos hx,hk,GJ,AE,Ai (by omega)];rfl
theorem RA.aHK(w:RA h a n i ps A)(hx:A.has x)(v:Int):RA (put h i x.toNat (I v)) a n i ps (A.Ia x v)/\Dh h (IC a n i) (put h i x.toNat (I v)) (IC a n i):=by
 obtain⟨h1,h2⟩:=w.at hx;have h3:=hx.1;refine⟨⟨w.e,?_,(B4 w.d.2.1).trans w.ha,(B4 w.d.2.2).trans w.hn,?_,w.d⟩,⟨by rw[IE];exact Ac _,λj _ hn=>B4 λe=>hn (.inr (.inr e)),λj hj=> .inl hj⟩⟩;·unfold Ar.Ia;simp only;rw[if_pos hx,Be];exact w.il
 .rw[Hk w.hi];obtain⟨k,hk⟩:∃k,x.toNat=k+1:=⟨x.toNat-1,by omega⟩;unfold Ar.Ia;simp only;rw[if_pos hx,hk,GJ,Bm,List.set_cons_succ,Bm,Fj]
theorem aHL(w:RA h a n i ps A)(hl:A.len<=1000000000)(hd:A.has d):∃h' n' i' IB,BI cx 184 [Pt a 0,I d] h (I (A.EX d)) h'/\RA h' a n' i' IB (A.CW d)/\Dh h (IC a n i) h' (IC a n' i'):=by
 by_cases h0:A.inr d=0;rotate_left
 .refine⟨h,n,i,ps,?_,by unfold Ar.CW;rw[if_pos h0];exact w,.refl⟩;have e:A.EX d=A.inr d:=by unfold Ar.EX;rw[if_pos h0]
  rw[Ab,nI,aA7,e];simp only[AA,Bi,w.VO,w.pU hd,(w.iat hd).load,h0]
 .obtain⟨h1,n1,i1,ZK,r1,w1,x1⟩:=aHI w hl false;have YO:(A.add {kind:=1,Cz:=A.len+1,Cr:=false}).has d:=Dl.2 (.inl hd);have LR:(A.add {kind:=1,Cz:=A.len+1,Cr:=false}).has (A.len+1):=Dl.2 (.inr rfl);obtain⟨w2,x2⟩:=w1.aHK YO (A.len+1);have Rs:((A.add {kind:=1,Cz:=A.len+1,Cr:=false}).Ia d (A.len+1)).has (A.len+1):=LR;have hd2:(((A.add {kind:=1,Cz:=A.len+1,Cr:=false}).Ia d (A.len+1)).Ia (A.len+1) (A.len+1)).has d:=YO;obtain⟨w3,x3⟩:=w2.aHK Rs (A.len+1);have e:A.EX d=A.len+1:=by unfold Ar.EX;rw[if_neg (by simpa using h0)]
  have eA:A.CW d=(((A.add {kind:=1,Cz:=A.len+1,Cr:=false}).Ia d (A.len+1)).Ia (A.len+1) (A.len+1)):=by unfold Ar.CW;rw[if_neg (by simpa using h0)]
  refine⟨_,n1,i1,ZK,?_,by rw[eA];exact w3,(x1.trans x2).trans x3⟩;have ei:(((A.add {kind:=1,Cz:=A.len+1,Cr:=false}).Ia d (A.len+1)).Ia (A.len+1) (A.len+1)).inr d=A.len+1:=by
   have il1:(A.add {kind:=1,Cz:=A.len+1,Cr:=false}).i.length=(A.add {kind:=1,Cz:=A.len+1,Cr:=false}).n.length:=w1.il;rw[Oj w2.il,Oj il1];split;·rfl
   .rw[if_pos ⟨rfl,YO⟩]
  have s1:=(w1.iat YO).store (u:= I (A.len+1)) rfl;have s2:=(w2.iat Rs).store (u:= I (A.len+1)) rfl;have ld:=(w3.iat hd2).load;rw[ei] at ld;rw[Ab,nI,aA7,e];simp only[AA,Bi,w.VO,w.pU hd,(w.iat hd).load,h0,r1.call,w1.VO,w1.pU YO,s1,w2.VO,w2.pU Rs,s2,w3.VO,ld]
theorem aHM{v:Aa}{l:List AU}(w:RA h a n i ps A)(hx:A.has x)(hk:(A.nd x).kind=4)(hv:Bz l v)(hb:l.length<=1000000000)(hs:∀y∈l,BS.Hq y.A0):
  ∃h' IB,BI cx 221 [Pt a 0,I x,v] h (I 0) h'/\RA h' a n i IB (A.Iv x l)/\Dh h (IC a n i) h' (IC a n i):=by
 have r1:=xi hv hb hs h;obtain⟨u,r2,hu⟩:=xj hv hb h;obtain⟨h1,s1,w1,x1,_⟩:=w.wr hx (k:=6) (by decide) (v:=u) (AM.cells hu) (p:=⟨{A.nd x with Ay:=Cg l},(pR ps x).kv,u,w.LD hx,hu⟩) (by simp only[RN.row];rw[(w.pn hx).2];rfl);refine⟨h1,_,?_,w1,x1⟩;rw[Ab,ng,aFg];simp only[AA,Bi,(Hd (x:=x) w).call,AD hx,w.nodes,w.addr hx,w.f0 hx,hk,ne_eq,r1.call,r2.call,Bx,s1]
theorem aHN(p:RN)(h:Ag):BI cx 163 [.agg p.row] h (.bool (decide (YL p.x))) h:=by rw[Ab,lq,aEU,RN.row];simp only[AA,YL];refine⟨λh1=>⟨λh2=>?_,λh2=>?_⟩,λh1=>?_⟩<;>simp[*]
theorem RA.xk(w:RA h a n i ps A)(hx:A.has x):A9 h (some 13) (Pt n (nR x))=some (.agg (pR ps x).row):=by
 obtain⟨h1,h2⟩:=w.at hx;have hlt:x.toNat<(RN.z::ps).length:=by simpa using h1
 have:=XR (bz _) w.hn (i:=x.toNat) (by simpa using h1);rw[CN] at this;have e:=(w.pn hx).1;rw[Ai hlt,BF] at e;rw[e] at this;exact this
theorem xl{v:Aa}{l:List AU}{sp:Int}{nm:As}(w:RA h a n i ps A)(hl:A.len+3<=1000000000)(hd:A.has d)(hk:(A.nd d).kind=1)(hs:BS.Hq sp)(hv:Bz l v)(hb:l.length<=1000000000)(vB:∀y∈l,BS.Hq y.A0):
  ∃h' n' i' IB,BI cx 98 [Pt a 0,I d,I sp,.str nm,v] h (.tuple [I (A.len+1),I 0]) h'/\RA h' a n' i' IB (A.elem d sp nm l)/\Dh h (IC a n i) h' (IC a n' i'):=by
 have r1:=xi hv hb vB h;obtain⟨u,r2,hu⟩:=xj hv hb h;have huc:u.cells=[u]:=AM.cells hu;obtain⟨h1,n1,i1,r3,w1,x1⟩:=pS w (by omega) ⟨{kind:=4,Cz:=d,A0:=sp,name:=nm,Ay:=Cg l},.slnil,u,.inr ⟨rfl,rfl⟩,hu⟩;have r0:∀{Q:Post} {h:Ag} {kk:Aa->IT},W cx (.Bk 78 [I sp] kk) Q h↔W cx (kk (.bool (decide (BS.Hq sp)))) Q h:=(pQ _).Bk rfl rfl;have LR:(A.add {kind:=4,Cz:=d,A0:=sp,name:=nm,Ay:=Cg l}).has (A.len+1):=Dl.2 (.inr rfl);have YO:(A.add {kind:=4,Cz:=d,A0:=sp,name:=nm,Ay:=Cg l}).has d:=Dl.2 (.inl hd);have TZ:(A.add {kind:=4,Cz:=d,A0:=sp,name:=nm,Ay:=Cg l}).len=A.len+1:=by unfold Ar.add Ar.len;simp
 have r4:=aHN (pR (ps++[⟨{kind:=4,Cz:=d,A0:=sp,name:=nm,Ay:=Cg l},.slnil,u,.inr ⟨rfl,rfl⟩,hu⟩]) (A.len+1)) h1;rw[(w1.pn LR).2,HO,if_pos rfl] at r4;have ld:=w1.xk LR;rw[RN.row] at r3;unfold Ar.elem;simp only
 by_cases hT:YL {kind:=4,Cz:=d,A0:=sp,name:=nm,Ay:=Cg l};rotate_left;·rw[if_neg hT];rw[AB hT] at r4;refine⟨h1,n1,i1,_,?_,w1,x1⟩;rw[Ab,zJ,t98];simp only[AA,Nat.reduceLeDiff,↓reduceIte,AK,Bi,(pT w hd hk).call,ne_eq,r0,AD hs,r1.call,r2.call,huc,r3.call,w1.nodes,w1.addr LR,ld,r4.call]
 .rw[if_pos hT];rw[AD hT] at r4;generalize hA1:A.add {kind:=4,Cz:=d,A0:=sp,name:=nm,Ay:=Cg l}=A1 at*;generalize ps++[(⟨{kind:=4,Cz:=d,A0:=sp,name:=nm,Ay:=Cg l},.slnil,u,.inr ⟨rfl,rfl⟩,hu⟩:RN)]=ZK at*;obtain⟨h2,n2,i2,i7,r5,w2,x2⟩:=aHL w1 (by omega) YO;have Xr:(A1.CW d).len<=A.len+2:=by
   unfold Ar.CW;split;·omega
   .rw[Q0,Q0];have:(A1.add {kind:=1,Cz:=A1.len+1}).len=A1.len+1:=by unfold Ar.add Ar.len;simp
    omega
  have Rs:(A1.CW d).has (A.len+1):=by
   unfold Ar.CW;split;·exact LR
   .rw[Mp,Mp];exact Dl.2 (.inl LR)
  obtain⟨h3,n3,i3,r6,w3,x3⟩:=pS w2 (by omega) ⟨{kind:=2,DW:=A.len+1,Cz:=A1.EX d},.slnil,.slnil,.inr ⟨rfl,rfl⟩,.inr ⟨rfl,rfl⟩⟩;have wh:((A1.CW d).add {kind:=2,DW:=A.len+1,Cz:=A1.EX d}).has (A.len+1):=Dl.2 (.inl Rs);have aCo:((A1.CW d).add {kind:=2,DW:=A.len+1,Cz:=A1.EX d}).nd (A.len+1)={kind:=4,Cz:=d,A0:=sp,name:=nm,Ay:=Cg l}:=by
   have DY:=Rs.2;rw[HO,if_neg (by unfold Ar.len at DY⊢;omega)];have h0:A1.nd (A.len+1)={kind:=4,Cz:=d,A0:=sp,name:=nm,Ay:=Cg l}:=by rw[<-hA1,HO,if_pos rfl]
   unfold Ar.CW;split;·exact h0
   .rw[Q1,Q1,HO,if_neg (by omega)];exact h0
  have WR:=(w3.pn wh).2;rw[aCo] at WR;obtain⟨h4,s4,w4,x4,_⟩:=w3.wr wh (k:=11) (by decide) (v:= I ((A1.CW d).len+1)) rfl (p:=⟨{kind:=4,Cz:=d,A0:=sp,name:=nm,Ay:=Cg l,cont:=(A1.CW d).len+1},(pR _ (A.len+1)).kv,(pR _ (A.len+1)).av,by have:=w3.LD wh;rw[aCo] at this;exact this,by have:=w3.ag wh;rw[aCo] at this;exact this⟩) (by simp only[RN.row];rw[WR];rfl);refine⟨h4,n3,i3,_,?_,w4,((x1.trans x2).trans x3).trans x4⟩;rw[RN.row] at r6;have nd3:=w3.nodes;have ad3:=w3.addr wh;rw[Ab,zJ,t98];simp only[AA,Nat.reduceLeDiff,↓reduceIte,AK,Bi,(pT w hd hk).call,ne_eq,r0,AD hs,r1.call,r2.call,huc,r3.call,w1.nodes,w1.addr LR,ld,r4.call,r5.call,r6.call,nd3,ad3,s4]
end
structure RX(h:Ag)(bi a:Nat)(o c t:Aa)(G:Nat->Prop)(b:BS):Prop where
 hb:h[bi]?=some (.cells (HS a b o c t))
 o:BM b.AR o
 t:Df b.tm t
 w:RW h G a b.a
 nb:¬G bi
section
variable{h h':Ag}{bi a:Nat}{o c t:Aa}{G G' F:Nat->Prop}{b:BS}{x:Int}{m:Nat}
theorem RX.lt(w:RX h bi a o c t G b):bi<h.length:=(Ae.1 w.hb).1
theorem RX.Cv{h':Ag}(w:RX h bi a o c t G b)(hf:∀i,i=bi\/G i->h'[i]?=h[i]?):RX h' bi a o c t G b:=
 ⟨by rw[hf bi (.inl rfl)];exact w.hb,w.o,w.t,w.w.Cv λi hi=>hf i (.inr hi),w.nb⟩
theorem RX.HB(w:RX h bi a o c t G b){u:Ag}:RX (h++u) bi a o c t G b:=w.Cv λi hi=>Ad (by rcases hi with rfl|hi;exact w.lt;exact w.w.lt hi)
theorem RX.ld(w:RX h bi a o c t G b)(k:Nat):A9 h none (Pt bi k)=(HS a b o c t)[k]?:=by simp only[A9,w.hb,Dz]
theorem RX.l0(w:RX h bi a o c t G b):A9 h none (Pt bi 0)=some (Pt a 0):=w.ld 0
theorem RX.l1(w:RX h bi a o c t G b):A9 h none (Pt bi 1)=some (I b.Cz):=w.ld 1
theorem RX.l4(w:RX h bi a o c t G b):A9 h none (Pt bi 4)=some (I b.mode):=w.ld 4
theorem RX.l7(w:RX h bi a o c t G b):A9 h none (Pt bi 7)=some (I b.head):=w.ld 7
theorem RX.l9(w:RX h bi a o c t G b):A9 h none (Pt bi 9)=some (.bool b.KL):=w.ld 9
theorem RX.du(w:RX h bi a o c t G b):A9 h none (Pt bi 15)=some (.bool b.Eb):=w.ld 15
theorem RX.l3(w:RX h bi a o c t G b):A9 h none (Pt bi 3)=some c:=w.ld 3
theorem RX.l6(w:RX h bi a o c t G b):A9 h none (Pt bi 6)=some t:=w.ld 6
theorem RX.pC(w:RX h bi a o c t G b):At h bi 3 c:=⟨_,w.hb,rfl⟩
theorem RX.pD{A':Ar}(w:RX h bi a o c t G b)(hp:RW h' G' a A')(x:Dh h G h' G'):RX h' bi a o c t G' {b with a:=A'}/\Dh h (own bi G) h' (own bi G'):=
 ⟨⟨by rw[x.old bi w.lt w.nb];exact w.hb,w.o,w.t,hp,λhg=>by rcases x.own bi hg with h|h;exact w.nb h;have:=w.lt;omega⟩,x.wq⟩
theorem RX.CP(w:RX h bi a o c t G b){u:Ag}:Dh h (own bi G) (h++u) (own bi G):= .HB
theorem RX.put{k:Nat}{v o' c' t':Aa}{b':BS}(w:RX h bi a o c t G b)(e:(HS a b o c t).set k v=HS a b' o' c' t')(ea:b'.a=b.a)(ho:BM b'.AR o')(ht:Df b'.tm t'):RX (Am.put h bi k v) bi a o' c' t' G b':=
 ⟨by rw[Hp w.hb,e];exact AG w.lt,ho,ht,by rw[ea];exact w.w.Cv λi hi=>B4 λe=>w.nb (e▸hi),w.nb⟩
theorem RX.Ig{u:Aa}{l:List Item}(w:RX h bi a o c t G b)(hu:BM l u):RX (Am.put h bi 2 u) bi a u c t G {b with AR:=l}:=w.put rfl rfl hu w.t
theorem RX.Ki{u:Aa}{l:List Ce}(w:RX h bi a o c t G b):RX (Am.put h bi 3 u) bi a o u t G {b with A3:=l}:=w.put rfl rfl w.o w.t
theorem RX.st{k:Nat}{v v0:Aa}(w:RX h bi a o c t G b)(hk:(HS a b o c t)[k]?=some v0)(hv:v.cells=[v]):Cd h 1 (Pt bi k) v=some (Am.put h bi k v):=At.store (v:=v0) ⟨_,w.hb,hk⟩ hv
theorem RX.qv(w:RX h bi a o c t G b):A9 h (some 4) (Pt bi 10)=some (.agg b.ctx.row):=by simp only[A9,w.hb];rfl
theorem RX.cX(w:RX h bi a o c t G b)(v:Int):RX (Am.put h bi 4 (I v)) bi a o c t G {b with mode:=v}:=w.put rfl rfl w.o w.t
theorem RX.jG{u:Aa}{l:List Int}(w:RX h bi a o c t G b)(hu:Df l u):RX (Am.put h bi 6 u) bi a o c u G {b with tm:=l}:=w.put rfl rfl w.o hu
theorem RX.step{A':Ar}{R:Ag->Prop}(w:RX h bi a o c t G b)(hPA:∀n i ps,RA h a n i ps b.a->∃h' n' i' IB,R h'/\RA h' a n' i' IB A'/\Dh h (IC a n i) h' (IC a n' i')):
  ∃h' G',R h'/\RX h' bi a o c t G' {b with a:=A'}/\Dh h (own bi G) h' (own bi G'):=by
 obtain⟨n,i,ps,wa,e⟩:=w.w;obtain⟨h',n',i',IB,r,w',x⟩:=hPA n i ps wa;obtain⟨w2,x2⟩:=w.pD (G':=IC a n' i') ⟨n',i',IB,w',rfl⟩ (by rw[e];exact x);exact⟨h',_,r,w2,x2⟩
theorem Lq(w:RX h bi a o c t G b)(x:Int):BI cx 185 [Pt bi 0,I x] h (I (b.a.nd x).kind) h:=by
 obtain⟨n,i,ps,wa,e⟩:=w.w;rw[Ab,mb,aEX];by_cases hx:b.a.has x;·simp only[AA,Bi,w.l0,(Hd (x:=x) wa).call,AD hx,wa.nodes,wa.addr hx,wa.f0 hx]
 .rw[GN hx];simp only[AA,Bi,w.l0,(Hd (x:=x) wa).call,AB hx]
theorem pV(w:RX h bi a o c t G b)(x:Int):BI cx 210 [Pt bi 0,I x] h (I (if b.a.has x then(b.a.nd x).Cz else b.Cz)) h:=by
 obtain⟨n,i,ps,wa,e⟩:=w.w;rw[Ab,mo,aE7];by_cases hx:b.a.has x;·rw[if_pos hx];simp only[AA,Bi,w.l0,(Hd (x:=x) wa).call,AD hx,wa.nodes,wa.addr hx,wa.f3 hx]
 .rw[if_neg hx];simp only[AA,Bi,w.l0,(Hd (x:=x) wa).call,AB hx,w.l1]
theorem xm(w:RX h bi a o c t G b)(x:Int)(ws:As)(hw:ws.length<9223372036854775806)(hn:(b.a.nd x).name.length<9223372036854775807):BI cx 228 [Pt bi 0,I x,.str ws] h (.bool (decide ((b.a.nd x).kind=4/\(b.a.nd x).A0=1)&&FC ws (b.a.nd x).name)) h:=by
 obtain⟨n,i,ps,wa,e⟩:=w.w;rw[Ab,nu,aFn];by_cases hk:(b.a.nd x).kind=4
 .have hx:b.a.has x:=by
   by_cases hp:b.a.has x;·exact hp
   .rw[GN hp] at hk;simp at hk
  have r2:∀{Q:Post} {h:Ag} {kk:Aa->IT},W cx (.Bk 188 [.str ws,.str (b.a.nd x).name] kk) Q h↔W cx (kk (.bool (FC ws (b.a.nd x).name))) Q h:=(aFU ws _ hw hn).Bk rfl rfl;by_cases hs:(b.a.nd x).A0=1;·simp only[AA,Bi,(Lq w x).call,AW hk,w.l0,wa.nodes,wa.addr hx,wa.f4 hx,AW hs,wa.f5 hx,r2,IZ]
  .simp only[AA,Bi,(Lq w x).call,AW hk,w.l0,wa.nodes,wa.addr hx,wa.f4 hx,hs,IZ]
 .simp only[AA,Bi,(Lq w x).call,hk,IZ]
end
section
variable{h h':Ag}{bi a:Nat}{o c t:Aa}{G G' F:Nat->Prop}{b:BS}{x:Int}{m:Nat}
theorem RX.Zt(w:RX h bi a o c t G b)(ok:DG b)(rm:BR b m)(p x bf:Int):∃er h' G',BI cx 187 [Pt a 0,I p,I x,I bf] h (I er) h'/\RX h' bi a o c t G' {b with a:=b.a.Fg p x bf}/\Dh h (own bi G) h' (own bi G'):=by
 have hk:∀y,(b.a.nd y).AZ.length<=900000000:=λy=>Bt (VQ ok.ok y) (by have:=rm.n;omega);obtain⟨h',G',⟨er,r⟩,w',x'⟩:=w.step (A':=b.a.Fg p x bf) (R:=λh'=>∃er:Int,BI cx 187 [Pt a 0,I p,I x,I bf] h (I er) h') λn i ps wa=>by obtain⟨er,h',IB,r,w',x'⟩:=aHC (p:=p) (x:=x) (b:=bf) wa ok.ok hk;exact⟨h',n,i,IB,⟨er,r⟩,w',x'⟩
 exact⟨er,h',G',r,w',x'⟩
theorem RX.self(w:RX h bi a o c t G b){A':Ar}(e:A'=b.a):RX h bi a o c t G {b with a:=A'}:=by subst e;exact w
theorem pW(w:RX h bi a o c t G b)(ok:DG b)(rm:BR b m)(p x bf:Int):∃h' G',BI cx 99 [Pt bi 0,I p,I x,I bf] h (.tuple []) h'/\RX h' bi a o c t G' {b with a:=b.a.D3 x p bf}/\Dh h (own bi G) h' (own bi G'):=by
 obtain⟨er,h1,G1,r1,w1,x1⟩:=w.Zt ok rm p x bf;by_cases hp:(b.a.nd p).kind=1;rotate_left
 .have e:b.a.D3 x p bf=b.a.Fg p x bf:=by unfold Ar.D3;rw[if_neg λh=>hp h.1]
  refine⟨h1,G1,?_,by rw[e];exact w1,x1⟩;rw[Ab,iV,t99];simp only[AA,Bi,(Lq w p).call,hp,w.l0,r1.call]
 by_cases hx:(b.a.nd x).kind=4;rotate_left
 .have e:b.a.D3 x p bf=b.a.Fg p x bf:=by unfold Ar.D3;rw[if_neg λh=>hx h.2.1]
  refine⟨h1,G1,?_,by rw[e];exact w1,x1⟩;rw[Ab,iV,t99];simp only[AA,Bi,(Lq w p).call,AW hp,(Lq w x).call,hx,w.l0,r1.call]
 have OE:(b.a.nd p).AZ.length<=1000000000:=Bt (VQ ok.ok p) (by have:=rm.n;omega);obtain⟨kv,r2,pB⟩:∃v,BI cx 186 [Pt a 0,I p] h v h/\Df (b.a.nd p).AZ v:=by obtain⟨n,i,ps,wa,_⟩:=w.w;exact b_ wa OE
 have H5:Ev cx 99 [Pt bi 0,I p,I x,I bf] h λr h'=>r= .tuple []/\∃G',RX h' bi a o c t G' {b with a:=b.a.D3 x p bf}/\Dh h (own bi G) h' (own bi G'):=by
  unfold Ev;have hvl:=AM.Cp pB;rw[iV,t99];simp only[AA,Bi,(Lq w p).call,AW hp,(Lq w x).call,AW hx,w.l0,r2.call];refine Bd (λk:Nat=>[I (k:Int)]) (λk h1=>k<=(b.a.nd p).AZ.length/\(∀y∈(b.a.nd p).AZ.take k,¬(b.a.nd y).kind=4)/\h1=h) (λk=>(b.a.nd p).AZ.length-k) 0 rfl ⟨AO _,λy hy=>by simp at hy,rfl⟩ ?_;rintro k h2 ⟨hk,ha,rfl⟩;rcases AN k (b.a.nd p).AZ.length with hlt|DT
  .have e1:=AM.BA (k:= .i64) pB hlt;rw[B6] at e1;by_cases h4:(b.a.nd (b.a.nd p).AZ[k]).kind=4
   .have e:b.a.D3 x p bf=b.a:=by unfold Ar.D3;rw[if_pos ⟨hp,hx,_,AI hlt,h4⟩]
    simp only[AA,Bi,hvl,show(k:Int)<((b.a.nd p).AZ.length:Int) by omega,e1,(Lq w _).call,AW h4];exact⟨_,rfl,rfl,G,w.self e,.refl⟩
   .simp only[AA,Bi,hvl,show(k:Int)<((b.a.nd p).AZ.length:Int) by omega,e1,(Lq w _).call,h4,BB (show k<9223372036854775807 by omega)];refine AF.next (k+1) rfl ⟨hlt,λy hy=>?_,rfl⟩ (by omega);rw[Av hlt] at hy;rcases Ap.1 hy with hy|hy
    .exact ha y hy
    .rw[Fk] at hy;rw[hy];exact h4
  .rw[Az DT] at ha;have e:b.a.D3 x p bf=b.a.Fg p x bf:=by unfold Ar.D3;rw[if_neg λh=>by obtain⟨_,_,y,hy,h4⟩:=h;exact ha y hy h4]
   simp only[AA,Bi,hvl,show¬(k:Int)<((b.a.nd p).AZ.length:Int) by omega,w.l0,r1.call];exact⟨_,rfl,rfl,G1,by rw[e];exact w1,x1⟩
 obtain⟨r,h',hr,rfl,G',w',x'⟩:=H5.ret;exact⟨h',G',hr,w',x'⟩
theorem aHO{v:Aa}{l:List Int}(hv:Df l v)(hb:l.length<=1000000000)(x:Int)(h:Ag):BI cx 165 [v,I x] h (I (Ca (λy=>decide (x=y)) 0 l)) h:=by
 rw[Ab,ly,aEV];have hvl:=AM.Cp hv;refine Bd (λk:Nat=>[I 0,I (k:Int)]) (λk h1=>k<=l.length/\Ca (λy=>decide (x=y)) 0 l=Ca (λy=>decide (x=y)) k (l.drop k)/\h1=h) (λk=>l.length-k) 0 rfl ⟨AO _,rfl,rfl⟩ ?_;rintro k h1 ⟨hk,ha,rfl⟩;rcases AN k l.length with hlt|DT
 .have e1:=AM.BA (k:= .i64) hv hlt;rw[B6] at e1;rw[AH hlt,Ca] at ha;simp only[AA,Bi,hvl,show(k:Int)<(l.length:Int) by omega,e1,BB (show k<9223372036854775807 by omega)];refine⟨λh2=>?_,λh2=>?_⟩;·rw[ha,if_pos (by simp[h2])]
  .rw[if_neg (by simpa using λe=>h2 e.symm)] at ha;exact AF.next (k+1) rfl ⟨hlt,ha,rfl⟩ (by omega)
 .rw[AY DT,Ca] at ha;simp only[AA,Bi,hvl,show¬(k:Int)<(l.length:Int) by omega,ha]
end
section
variable{h h':Ag}{bi a:Nat}{o c t:Aa}{G G' F:Nat->Prop}{b:BS}{x:Int}{m:Nat}
theorem cf(w:RX h bi a o c t G b)(x:Int):BI cx 306 [Pt a 0,I x] h (I (b.a.nd x).Fa) h:=by obtain⟨n,i,ps,wa,_⟩:=w.w;exact aHv wa
theorem cg(w:RX h bi a o c t G b)(rm:BR b m):BI cx 217 [Pt bi 0] h (.agg (EW b.AR).row) h:=by have ho:=rm.AR;have ld:A9 h none (Pt bi 2)=some o:=w.ld 2;rw[Ab,mz,aFd];simp only[AA,EC,ld,(aKQ w.o (by omega)).call]
theorem aHP(w:RX h bi a o c t G b)(rm:BR b m):BI cx 269 [Pt bi 0] h (.tuple [I b.I7.1,I b.I7.2]) h:=by
 have hl:=rm.AR;have ld:A9 h none (Pt bi 2)=some o:=w.ld 2;have r1:=aBR (h:=h) w.o (by omega) Ex;have r2:=aBR (h:=h) w.o (by omega) A6;have b1:=JN (q:=Bq [Ex]) (l:=b.AR);have b2:=JN (q:=Bq [A6]) (l:=b.AR);have at_:∀k:Nat,k<b.AR.length->Aw (.EE 4) [o,I (k:Int)]=some (.CB [I (GB b.AR k).node,I (GB b.AR k).A0,.str (GB b.AR k).name,.bool (GB b.AR k).Nt]):=λk hk=>by have:=AM.BA (k:= .i64) w.o hk;rw[Hj hk,this];rfl
 unfold BS.I7;simp only
 generalize AL (Bq [Ex]) b.AR=tb at r1 b1⊢;generalize AL (Bq [A6]) b.AR=tp at r2 b2⊢;rw[Ab,om,aFw];by_cases h1:tb<tp;·obtain⟨k,rfl⟩:∃k:Nat,tp=(k:Int):=⟨tp.toNat,by omega⟩;rw[if_pos h1];simp only[AA,Bi,ld,r2.call,Bx,r1.call,show(0:Int)<=(k:Int) by omega,h1,AQ,at_ k (by omega),IZ]
 .rw[if_neg h1];by_cases h2:tb<0;·rw[if_pos h2];by_cases h0:(0:Int)<=tp<;>simp only[AA,Bi,EC,r2.call,Bx,r1.call,h0,h1,AQ,IZ,h2,ld,(aF4 (h:=h) w.o 0).call]
  .obtain⟨k,rfl⟩:∃k:Nat,tb=(k:Int):=⟨tb.toNat,by omega⟩;rw[if_neg h2];by_cases h3:(b.a.nd (GB b.AR k).node).Fa=0
   .rw[if_neg (by simpa using h3)];by_cases h4:k=0
    .have e:max ((k:Int)-1) 0=(k:Int):=by omega
     by_cases h0:(0:Int)<=tp<;>simp only[AA,Bi,EC,r2.call,Bx,r1.call,h0,h1,AQ,IZ,show¬(k:Int)<0 by omega,ld,at_ k (by omega),w.l0,(cf w _).call,h3,ne_eq,AW (show(k:Int)=0 by omega),e]
    .have hd:=Ho (n:=k) (by omega) (by omega);have e:max ((k:Int)-1) 0=((k-1:Nat):Int):=by omega
     by_cases h0:(0:Int)<=tp<;>simp only[AA,Bi,EC,r2.call,Bx,r1.call,h0,h1,AQ,IZ,show¬(k:Int)<0 by omega,ld,at_ k (by omega),w.l0,(cf w _).call,h3,ne_eq,show¬(k:Int)=0 by omega,hd,at_ (k-1) (by omega),e]
   .rw[if_pos h3];by_cases h0:(0:Int)<=tp<;>simp only[AA,Bi,EC,r2.call,Bx,r1.call,h0,h1,AQ,IZ,h2,ld,at_ k (by omega),w.l0,(cf w _).call,h3,ne_eq]
end
theorem cj{s:As}:FC aSG s=decide (s∈GU):=DV (by decide+kernel) (by decide+kernel)
theorem sj{s:As}:FC aSC s=decide (s∈[A6]):=DV (by decide+kernel) (by decide+kernel)
theorem XY{A:Ar}{y:Int}{ws:List As}{q:Bool}(hq:q=decide ((A.nd y).name∈ws)):(decide ((A.nd y).kind=4/\(A.nd y).A0=1)&&q)=decide (Q3 ws A y):=by subst hq;rw[<-Bool.decide_and];rw[D4];unfold Q3;exact⟨λh=>⟨h.1.1,h.1.2,h.2⟩,λh=>⟨⟨h.1,h.2.1⟩,h.2.2⟩⟩
theorem Kl{A:Ar}(ok:Ew A 0)(y:Int):(A.nd y).cont≠0↔Q3 [A6] A y:=by
 by_cases hy:A.has y
 .constructor;·intro h;have:=(ok.Q2 y hy).S2 h;exact⟨this.1,this.2.1,by rw[this.2.2];simp⟩
  .intro h;exact ok.jf y hy (by have:=hy.1;omega) ⟨h.1,h.2.1,by simpa using h.2.2⟩
 .rw[GN hy];constructor;·intro h;simp at h
  .intro h;have:=h.1;rw[GN hy] at this;simp at this
section
variable{h h':Ag}{bi a:Nat}{o c t:Aa}{G G' F:Nat->Prop}{b:BS}{x:Int}{m:Nat}
theorem aHQ(w:RX h bi a o c t G b)(hnm:∀x,(b.a.nd x).name.length<=1000)(x:Int):BI cx 228 [Pt bi 0,I x,S aSG] h (.bool (decide (Q3 GU b.a x))) h:=by have:=xm w x aSG (by decide) (by have:=hnm x;omega);rwa [XY cj] at this
theorem xn(w:RX h bi a o c t G b)(hnm:∀x,(b.a.nd x).name.length<=1000)(x:Int):BI cx 228 [Pt bi 0,I x,S aSC] h (.bool (decide (Q3 [A6] b.a x))) h:=by have:=xm w x aSC (by decide) (by have:=hnm x;omega);rwa [XY sj] at this
theorem pX(w:RX h bi a o c t G b)(ok:DG b)(rm:BR b m)(hnm:∀x,(b.a.nd x).name.length<=1000)(x:Int):BI cx 205 [Pt bi 0,I x] h (.tuple [I (b.place x).1,I (b.place x).2]) h:=by
 have ho:=rm.AR;have ld:A9 h none (Pt bi 2)=some o:=w.ld 2;have lo:=AM.Cp w.o;have r1:=cg w rm;have r2:=aHP w rm;obtain⟨n,i,ps,wa,_⟩:=w.w;rw[Ab,mi,aE2];by_cases he:x=0/\b.AR=[]
 .have e:b.place x=(b.Cz,0):=by unfold BS.place;rw[if_pos he]
  have lo0:Aw (.len false) [o]=some (I 0):=by rw[lo,he.2];rfl
  rw[e];simp only[AA,Bi,AW he.1,ld,lo0,w.l1,AQ]
 obtain⟨t',Fp⟩:∃t',t'=if x=0 then(EW b.AR).node else x:=⟨_,rfl⟩
 obtain⟨pb,XH⟩:∃pb:Int×Int,pb=if b.Eb=true/\Q3 GU b.a t' then b.I7 else(t',0):=⟨_,rfl⟩
 have e:b.place x=if(b.a.nd pb.1).cont≠0 then((b.a.nd pb.1).cont,0) else pb:=by unfold BS.place;rw[if_neg he];simp only;rw[<-Fp,<-XH]
 have r4:=aHQ w hnm t';have r5:=xn w hnm pb.1;have Rm:=w.du;have aH:x=0->¬(b.AR.length:Int)=0:=λh0 h1=>he ⟨h0,tP.1 (by omega)⟩;rw[e];cases hfo:b.Eb with
 |false=>
  rw[hfo] at Rm;rw[if_neg (by rw[hfo];intro h;exact absurd h.1 (by decide))] at XH;subst XH;simp only at r5⊢;by_cases hT:Q3 [A6] b.a t'
  .have hc:=(Kl ok.ok t').2 hT;have hh:b.a.has t':=by
    by_cases hp:b.a.has t';·exact hp
    .have:=hT.1;rw[GN hp] at this;simp at this
   rw[AD hT] at r5;rw[if_pos hc];by_cases Mj:x=0;·rw[if_pos Mj] at Fp;subst Fp;simp only[AA,Bi,EC,AW Mj,ld,lo,aH Mj,r1.call,AQ,Rm,r5.call,w.l0,wa.nodes,wa.addr hh,wa.xh hh]
   .rw[if_neg Mj] at Fp;subst Fp;simp only[AA,Bi,Mj,AQ,Rm,r5.call,w.l0,wa.nodes,wa.addr hh,wa.xh hh]
  .have hc:=λh=>hT ((Kl ok.ok t').1 h);rw[AB hT] at r5;rw[if_neg hc];by_cases Mj:x=0;·rw[if_pos Mj] at Fp;subst Fp;simp only[AA,Bi,EC,AW Mj,ld,lo,aH Mj,r1.call,AQ,Rm,r5.call]
   .rw[if_neg Mj] at Fp;subst Fp;simp only[AA,Bi,Mj,AQ,Rm,r5.call]
 |true=>
  rw[hfo] at Rm;by_cases hw:Q3 GU b.a t'
  .rw[if_pos ⟨hfo,hw⟩] at XH;subst XH;rw[AD hw] at r4;by_cases hT:Q3 [A6] b.a b.I7.1
   .have hc:=(Kl ok.ok b.I7.1).2 hT;have hh:b.a.has b.I7.1:=by
     by_cases hp:b.a.has b.I7.1;·exact hp
     .have:=hT.1;rw[GN hp] at this;simp at this
    rw[AD hT] at r5;rw[if_pos hc];by_cases Mj:x=0;·rw[if_pos Mj] at Fp;subst Fp;simp only[AA,Bi,EC,AW Mj,ld,lo,aH Mj,r1.call,AQ,Rm,r4.call,r2.call,r5.call,w.l0,wa.nodes,wa.addr hh,wa.xh hh]
    .rw[if_neg Mj] at Fp;subst Fp;simp only[AA,Bi,Mj,AQ,Rm,r4.call,r2.call,r5.call,w.l0,wa.nodes,wa.addr hh,wa.xh hh]
   .have hc:=λh=>hT ((Kl ok.ok b.I7.1).1 h);rw[AB hT] at r5;rw[if_neg hc];by_cases Mj:x=0;·rw[if_pos Mj] at Fp;subst Fp;simp only[AA,Bi,EC,AW Mj,ld,lo,aH Mj,r1.call,AQ,Rm,r4.call,r2.call,r5.call]
    .rw[if_neg Mj] at Fp;subst Fp;simp only[AA,Bi,Mj,AQ,Rm,r4.call,r2.call,r5.call]
  .rw[if_neg (λh=>hw h.2)] at XH;subst XH;rw[AB hw] at r4;simp only at r5⊢;by_cases hT:Q3 [A6] b.a t'
   .have hc:=(Kl ok.ok t').2 hT;have hh:b.a.has t':=by
     by_cases hp:b.a.has t';·exact hp
     .have:=hT.1;rw[GN hp] at this;simp at this
    rw[AD hT] at r5;rw[if_pos hc];by_cases Mj:x=0;·rw[if_pos Mj] at Fp;subst Fp;simp only[AA,Bi,EC,AW Mj,ld,lo,aH Mj,r1.call,AQ,Rm,r4.call,r5.call,w.l0,wa.nodes,wa.addr hh,wa.xh hh]
    .rw[if_neg Mj] at Fp;subst Fp;simp only[AA,Bi,Mj,AQ,Rm,r4.call,r5.call,w.l0,wa.nodes,wa.addr hh,wa.xh hh]
   .have hc:=λh=>hT ((Kl ok.ok t').1 h);rw[AB hT] at r5;rw[if_neg hc];by_cases Mj:x=0;·rw[if_pos Mj] at Fp;subst Fp;simp only[AA,Bi,EC,AW Mj,ld,lo,aH Mj,r1.call,AQ,Rm,r4.call,r5.call]
    .rw[if_neg Mj] at Fp;subst Fp;simp only[AA,Bi,Mj,AQ,Rm,r4.call,r5.call]
end
def Nm(A:Ar):Prop:=∀x,(A.nd x).name.length<=1000
section
variable{A A':Ar}{b:BS}{q:dG}{m j:Nat}{nm:As}{l:List AU}{sp p x:Int}
theorem Nm.le(h:Nm A)(hl:Le A A')(hn:A'.n.length=A.n.length):Nm A':=λy=>by
 by_cases hy:A.has y;·rw[hl.name y hy];exact h y
 .have:¬A'.has y:=by unfold Ar.has at hy⊢;rw[hn];exact hy
  rw[GN this];simp
theorem Nm.add(h:Nm A){y:Em}(hy:y.name.length<=1000):Nm (A.add y):=λx=>by
 rw[HO];split;·exact hy
 .exact h x
theorem Nm.set(h:Nm A){y:Em}{k:Int}(hy:y.name.length<=1000):Nm (A.set k y):=λx=>by
 rw[IN];split;·exact hy
 .exact h x
theorem Nm.Ia(h:Nm A){k v:Int}:Nm (A.Ia k v):=λx=>by rw[Q1];exact h x
theorem Nm.Fg(h:Nm A){bf:Int}:Nm (A.Fg p x bf):=h.le M5 (I3 (A:=A)).n
theorem Nm.D3(h:Nm A){bf:Int}:Nm (A.D3 x p bf):=h.le Ib (I4 (A:=A)).n
theorem Nm.CW(h:Nm A){d:Int}:Nm (A.CW d):=by
 unfold Ar.CW;split;·exact h
 .exact(h.add (by simp)).Ia.Ia
theorem Nm.elem(h:Nm A){d:Int}(hn:nm.length<=1000):Nm (A.elem d sp nm l):=by
 have h1:Nm (A.add {kind:=4,Cz:=d,A0:=sp,name:=nm,Ay:=Cg l}):=h.add hn;unfold Ar.elem;simp only
 split;·exact(h1.CW.add (by simp)).set hn
 .exact h1
theorem Nm.mk(h:Nm b.a)(hn:nm.length<=1000):Nm (b.Ee nm l sp p).a:=by
 unfold BS.Ee;split;·exact h.elem (by rw[Vw];exact hn)
 .exact h
theorem Nm.L1(h:Nm b.a)(hn:nm.length<=1000):Nm (b.Ey nm l sp).a:=by
 unfold BS.Ey;split;·exact(h.mk hn).D3
 .exact h
theorem Nm.Kx(h:Nm A){s:As}{bf:Int}:Nm (BS.Kx A s p bf):=by
 unfold BS.Kx;split
 .split
  .split;·exact h.set (h _)
   .exact(h.add (by simp)).D3
  .exact(h.add (by simp)).D3
 .exact h
theorem Nm.Es(h:Nm A){s:As}{bf:Int}:Nm (BS.Es A s p bf):=by
 unfold BS.Es;split;·exact(h.add (by simp)).D3
 .exact h
theorem Nm.Iw:∀{l:List Ce} {b:BS},Nm b.a->(∀e∈l,e.name.length<=1000)->Nm (BS.Iw l b).2.a
 |[],b,h,_=>h
 |e::l,b,h,hl=>by rw[BS.Iw];exact Nm.Iw (h.L1 (hl e (by simp))) λx hx=>hl x (by simp[hx])
theorem Nm.GF(h:Nm b.a):Nm (b.GF l x).a:=by
 unfold BS.GF;split;·exact h.set (h _)
 .exact h
theorem Nm.EO{blk anc:Int}{far i:Nat}{l:Int}{mk:Nat}(h:Nm b.a)(r:BR b m):Nm (BS.EO blk anc far i b l mk).1.a:=by
 unfold BS.EO;simp only
 split;·exact h
 .split;·exact h
  .rename_i he _;obtain⟨p,hp,e1,_,_,_⟩:=GH (L0.1 he);rw[e1,AS,AE,Ai hp,Ih];exact(h.mk (r.Dj _ (AI hp)).1).Fg
theorem Nm.Jp{blk anc:Int}{far k m:Nat}:∀{c:Nat} {s:BS×Int×Nat},Nm s.1.a->BR s.1 (m+4*c)->Nm (BS.Jp blk anc far k c s).1.a
 |0,s,h,_=>h
 |c+1,s,h,r=>Nm.Jp (c:=c) (h.EO r) (Nc (m:=m+4*c) (r.le (by omega)))
theorem Nm.Cl{n:Int}:∀{l:List Int} {A:Ar},Nm A->Nm (BS.Cl A n l)
 |[],A,h=>h
 |y::l,A,h=>Nm.Cl (l:=l) (h.Fg (p:=n) (x:=y) (bf:=0))
theorem Nm.FO{fe:Ce}{blk anc:Int}{s:BS×Int×Nat}(h:Nm s.1.a)(Jr:fe.name.length<=1000):Nm (BS.FO fe blk anc s).a:=by
 unfold BS.FO;simp only
 generalize XH:s.1.place anc=pb;have h2:Nm (s.1.a.D3 s.2.1 pb.1 pb.2):=h.D3;have h3:=Nm.mk (b:={s.1 with a:=s.1.a.D3 s.2.1 pb.1 pb.2}) (nm:=fe.name) (l:=fe.Ay) (sp:=1) (p:=blk) h2 Jr;exact(Nm.Cl h3).Fg
theorem Nm.round(h:Nm b.a)(r:BR b (m+4*b.AR.length+10)):Nm (b.round nm).2.a:=by
 unfold BS.round;simp only
 split
 .have:(b.C1 nm).a=b.a:=by
   unfold BS.C1;split;·split<;>rfl
   .rfl
  rw[this];exact h
 .rename_i hf;obtain⟨f,Gv,ef⟩:=Ri (L0.1 hf);have Ub:b.A3.getD (FL nm b.A3).toNat Ce.zero=b.A3[f]:=by rw[ef,AS,AE,Ai Gv];rfl
  have Jr:=r.Dj _ (AI Gv);rw[Ub];split;·exact h
  .split;·exact h
   .split;·exact h
    .have hlt:(DA b.A3[f].node b.AR).toNat-1 -(AL (Bp b.A3[f].node) b.AR).toNat<=b.AR.length:=by
      rw[HN];split;·omega
      .unfold Ep;split;·rename_i j hj;have:=(HE.1 hj).1;rw[A8] at this;omega
       .omega
     exact Nm.FO (Nm.Jp (m:=m) h (r.le (by omega))) Jr.1
theorem Nm.DM:∀{n:Nat} {b:BS} {k:Nat},Nm b.a->b.AR.length<=k->BR b (m+n*(4*(k+n)+10))->Nm (BS.DM n b nm).a
 |0,b,k,h,hk,r=>h
 |n+1,b,k,h,hk,r=>by
  have e:(n+1)*(4*(k+(n+1))+10)=n*(4*(k+1+n)+10)+(4*(k+(n+1))+10):=by rw[BC,Ez,show k+(n+1)=k+1+n by omega]
  rw[e] at r;have h1:=Nd (m:=m+n*(4*(k+1+n)+10)) (r.le (by omega)) nm;have h2:=h.round (m:=m+n*(4*(k+1+n)+10)) (nm:=nm) (r.le (by omega));unfold BS.DM;simp only
  split;·exact Nm.DM (n:=n) (k:=k+1) h2 (by omega) h1.1
  .exact h2
theorem aCp(h:Nm b.a)(sz:Sz b (j+1))(hq:bn q):Nm (VX b q).1.a:=VY (P:=λr=>Nm r.1.a)
 (h.L1 hq.name)
 (h.L1 hq.name)
 (Nm.L1 (b:=b) (sp:=1) (l:=q.Ay) h hq.name)
 (h.Kx)
 (by
  dsimp only;unfold BS.J2;split;·exact h.Es
  .exact h.Es)
 (Nm.L1 (b:=b) (sp:=1) (l:=q.Ay) h hq.name)
 (by
  dsimp only;unfold BS.IP;split;·exact h
  .exact h)
 (Nm.Iw h λe he=>(sz.rm.Dj e (Bw he)).1)
 (by
  dsimp only;unfold BS.C1;split
  .split;·exact h
   .exact h
  .exact h)
 (by
  dsimp only;unfold BS.Hr;split
  .unfold BS.Qa;split;·exact h
   .exact h
  .exact Nm.DM (n:=8) (k:=b.AR.length) (m:=5000000*j) h (Ac _) (sz.rm.le (by have:=sz.AR;omega)))
 h
 (h.GF)
 (by
  dsimp only;unfold BS.C8;split;·exact h
  .exact h)
 h
 h
 h
 h
 (by
  dsimp only;unfold BS.Qa;split;·exact h
  .exact h)
 h
 h
 h
 h
 h
 (h.mk hq.name)
 h
theorem pY(q:Bool):Nm (C7 q).a:=λx=>by rw[Ng];split<;>simp
theorem cm(s:EK):Nm s.b.a:=by
 have h3:Nm (Im s.A0 s.name s.Ay s.Cr).a:=((pY s.Cr).mk (nm:=Dd) (by decide)).D3;have h4:Nm (KD s.A0 s.name s.Ay s.Cr).a:=by unfold KD;split<;>exact h3
 unfold EK.b So;split
 .split;·exact h4
  .exact h4
 .exact pY _
end
section
variable{h h':Ag}{bi a:Nat}{o c t:Aa}{G G' F:Nat->Prop}{b:BS}{x:Int}{m:Nat}
variable{nm:As}{av:Aa}{l:List AU}{r:List Aa}{sp p:Int}
theorem aCq(ok:DG b)(y:Int):(if b.a.has y then(b.a.nd y).Cz else b.Cz)=if(b.a.nd y).Cz≠0 then(b.a.nd y).Cz else b.Cz:=by
 by_cases hy:b.a.has y;·have:=(ok.ok.Cz y hy).1.1;rw[if_pos hy,if_pos (by omega)]
 .rw[if_neg hy,GN hy,if_neg (by simp)]
theorem sk(w:RX h bi a o c t G b)(ok:DG b)(rm:BR b (m+3))(hnm:Nm b.a)(hr:Na nm av r)(hv:Bz l av)(hl:DH l)(hn:nm.length<=1000)(p sp:Int):
  ∃h' G',BI cx 140 [Pt bi 0,.agg r,I sp,I p] h (.agg (b.FE nm l sp).row) h'/\RX h' bi a o c t G' (b.Ee nm l sp p)/\Dh h (own bi G) h' (own bi G'):=by
 obtain⟨c0,c2,c3,c4,c5,c6,c7,c9,Tq,U1,rfl⟩:=hr;have r0:∀{Q:Post} {h:Ag} {kk:Aa->IT},W cx (.Bk 78 [I sp] kk) Q h↔W cx (kk (.bool (decide (BS.Hq sp)))) Q h:=(pQ _).Bk rfl rfl;by_cases hs:BS.Hq sp;rotate_left
 .refine⟨h,G,?_,by unfold BS.Ee;rw[if_neg hs];exact w,.refl⟩;have e:b.FE nm l sp=Item.zero:=by unfold BS.FE;rw[if_neg hs]
  rw[e,LY,Ab,mP,aAL];simp only[AA,↓reduceIte,AK,Bi,r0,AB hs]
 obtain⟨u,r1,hu⟩:=f180 (h:=h) hv (λy hy=>(hl.2 y hy).1) hl.1 sp;have hd:=Sd ok (p:=p);have sp2:∀y∈l.map (CO sp),BS.Hq y.A0:=by intro y hy;obtain⟨z,_,rfl⟩:=Bl.1 hy;exact iB
 have hlen:(l.map (CO sp)).length<=1000000000:=by rw[Ah];have:=hl.1;omega
 obtain⟨h',G',r3,w3,x3⟩:=w.step (A':=b.a.elem (b.Iq p) sp (BS.Ir sp nm) (l.map (CO sp))) (R:=λh'=>BI cx 98 [Pt a 0,I (b.Iq p),I sp,.str (BS.Ir sp nm),u] h (.tuple [I (b.a.len+1),I 0]) h') λn i ps wa=>by obtain⟨h',n',i',IB,r,wp,xp⟩:=xl (nm:=BS.Ir sp nm) wa (rm.len (by omega)) hd.1 hd.2 hs hu hlen sp2;exact⟨h',n',i',IB,r,wp,xp⟩
 have Nx:=Vw (sp:=sp) (nm:=nm);have r4:=aFZ (h:=h') hu (λy hy=>by obtain⟨z,hz,rfl⟩:=Bl.1 hy;rw[XJ];have:=(hl.2 z hz).2;have:AT=140737488355328:=rfl;omega) (by omega) sp (BS.Ir sp nm) (by omega);have em:Aw (.Bs [I 0,I 0,S [],ff] [(0,1),(1,1),(2,1),(3,1)]) [I (b.a.len+1),I sp,.str (BS.Ir sp nm),.bool (EJ sp (BS.Ir sp nm) (l.map (CO sp)))]=some (.agg (b.FE nm l sp).row):=by rw[XA];unfold BS.FE;rw[if_pos hs]
 have r5:=xn w hnm p;refine⟨h',G',?_,by unfold BS.Ee;rw[if_pos hs];exact w3,x3⟩;have XV:=λ(y:Item)=>@Item.Cq y;obtain⟨n,i,ps,wa,_⟩:=w.w;have key:∀(Q:Post) (kk:EN->List Aa->IT) (p':Int),p'=(if Q3 [A6] b.a p then(b.a.nd p).cont else p)->(if b.a.has p' then(b.a.nd p').Cz else b.Cz)=b.Iq p:=by
  intro Q kk p' e;rw[aCq ok];unfold BS.Iq;by_cases hT:Q3 [A6] b.a p;·rw[if_pos hT] at e;subst e;rw[if_pos ((Kl ok.ok p).2 hT)]
  .rw[if_neg hT] at e;subst e;rw[if_neg (λh=>hT ((Kl ok.ok p').1 h))]
 have key:=key (λ_ _ _=>True) (λ_ _=> .fail);rw[Ab,mP,aAL];by_cases hT:Q3 [A6] b.a p
 .have hh:b.a.has p:=by
   by_cases hp:b.a.has p;·exact hp
   .have:=hT.1;rw[GN hp] at this;simp at this
  have r6:=pV w (b.a.nd p).cont;rw[key _ (if_pos hT).symm] at r6;rw[AD hT] at r5;by_cases h2:sp=2
  .have e:BS.Ir sp nm=Cb nm H7:=by unfold BS.Ir;rw[if_pos h2]
   rw[e] at r3 r4 em;simp only[AA,↓reduceIte,AK,Bi,EC,r0,AD hs,r1.call,AW h2,(f181 nm).Bk rfl rfl,AQ,r5.call,w.l0,wa.nodes,wa.addr hh,wa.xh hh,r6.call,Bx,r3.call,r4.call,em,XV]
  .have e:BS.Ir sp nm=nm:=by unfold BS.Ir;rw[if_neg h2]
   rw[e] at r3 r4 em;simp only[AA,↓reduceIte,AK,Bi,EC,r0,AD hs,r1.call,h2,AQ,r5.call,w.l0,wa.nodes,wa.addr hh,wa.xh hh,r6.call,Bx,r3.call,r4.call,em,XV]
 .have r6:=pV w p;rw[key _ (if_neg hT).symm] at r6;rw[AB hT] at r5;by_cases h2:sp=2
  .have e:BS.Ir sp nm=Cb nm H7:=by unfold BS.Ir;rw[if_pos h2]
   rw[e] at r3 r4 em;simp only[AA,↓reduceIte,AK,Bi,EC,r0,AD hs,r1.call,AW h2,(f181 nm).Bk rfl rfl,AQ,r5.call,w.l0,r6.call,Bx,r3.call,r4.call,em,XV]
  .have e:BS.Ir sp nm=nm:=by unfold BS.Ir;rw[if_neg h2]
   rw[e] at r3 r4 em;simp only[AA,↓reduceIte,AK,Bi,EC,r0,AD hs,r1.call,h2,AQ,r5.call,w.l0,r6.call,Bx,r3.call,r4.call,em,XV]
end
end Go.Am
end
