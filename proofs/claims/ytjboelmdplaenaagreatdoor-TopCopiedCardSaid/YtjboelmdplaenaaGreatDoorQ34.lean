/- Lemmas -/
import Derived.Test.YtjboelmdplaenaaGreatDoorQ32
import Derived.Test.YtjboelmdplaenaaGreatDoorQ33
set_option linter.unusedVariables false
set_option linter.unusedSimpArgs false
namespace Go.Am
open Go
set_option maxRecDepth 100000
section
variable {h h' h1:AHeap} {a b:Nat} {A B:Ar} {x y sf sg:Int} {F F' G:Nat→Prop} {v:AVal} {l:List LQ}
theorem PW.keep (w:PW sf h G b B) (dj:∀i,F i→¬G i) (x:Ext h F h' F'):PW sf h' G b B∧∀i,F' i→¬G i:=
 ⟨w.frame λi hi=>x.old i (w.lt hi) λhf=>dj i hf hi,λi hi h2=>by
  rcases x.own i hi with h1|h1
  ·exact dj i h1 h2
  ·have:=w.lt h2;omega⟩
theorem PW.fresh (w:PW sf h G b B) (x:Ext h (λ_=>False) h' F'):PW sf h' G b B∧∀i,F' i→¬G i:=w.keep (λ_ h=>h.elim) x
theorem same_w (w:PW sf h F a A) (w':PW sg h G b B) (lm:Lim A) (lm':Lim B) (hkb:∀y,(B.nd y).kids.length≤1000000000) {P:Int→Prop} (s:Smt A B P x y):Ret cx 13 [.ptr (some (a,0)),.int .i64 x,.ptr (some (b,0)),.int .i64 y] h tt h:=by obtain⟨n,m,ps,w,_⟩:=w.pa_;obtain⟨n',m',ps',w',_⟩:=w'.pa_;exact s620 w w' lm lm' hkb s
theorem data_le (lm:Lim A):∀y,(A.nd y).data.length≤20000000000000:=λy=>lm.data y
theorem ev_copied (hkn:PRet cx 5 [] tt) (hv:IsLops l v) (x:Int) (h:AHeap):Ev cx 3 [v,.int .i64 x] h λr _=>r=tt:=by
 have kn:∀{Q:Post} {h:AHeap} {k:AVal→IT},W cx (.pcall 5 [] k) Q h↔W cx (k tt) Q h:=λ{_ _ _}=>hkn.pcall rfl rfl;obtain⟨b0,r1,hb0⟩:=f614 hv h;unfold Ev;rw[t3_eq,t3]
 cases b0
 ·simp only[amS,Nat.reduceLeDiff,↓reduceIte,bxS,r1,kn];exact⟨_,rfl,rfl⟩
 obtain⟨hl,hc,ho⟩:=hb0 rfl;obtain⟨h1,F,r2,x1,hL⟩:=f616 hv hl hc ho h;obtain⟨a,ea⟩:∃a,h.length=a:=⟨_,rfl⟩;rw[ea] at r2 hL;rcases hL with⟨na,rfl⟩|⟨A,k,c,w,inv,hkc,hc8⟩
 ·obtain⟨r,r3,hr⟩:=n97 na x;simp only[amS,Nat.reduceLeDiff,↓reduceIte,bxS,r1,r2,r3,hr,ne_eq,ieq,kn];exact⟨_,rfl,rfl⟩
 have ok:=inv.ok;have ro:=inv.roo hkc hc8;have lm:=ro.lim;have hlen:=inv.len hkc hc8;have hfew:=inv.few hkc hc8;have hS:=inv.S hkc hc8;have bA:Bnd A 100:=ro.bn;obtain⟨n0,m0,ps0,w0,eF⟩:=w.pa_;obtain⟨r,t,r3,K,V,er,_,hV,_⟩:=f97w (x:=x) w0 lm (lm.kids ok x);have wt:PW 0 (h1++t) F a A:=w.app;by_cases hx:A.has x;rotate_left
 ·rw[if_neg hx,er] at r3;simp only[amS,Nat.reduceLeDiff,↓reduceIte,bxS,r1,r2,r3,ne_eq,ieq,kn];exact⟨_,rfl,rfl⟩
 rw[if_pos hx,er] at r3;by_cases k1:(A.nd x).kind=1
 ·simp only[amS,Nat.reduceLeDiff,↓reduceIte,bxS,r1,r2,r3,ne_eq,eq_self,k1,kn];exact⟨_,rfl,rfl⟩
 by_cases hh:(A.nd x).host=0;rotate_left
 ·simp only[amS,Nat.reduceLeDiff,↓reduceIte,bxS,r1,r2,r3,ne_eq,eq_self,k1,hh,kn];exact⟨_,rfl,rfl⟩
 obtain⟨h2,eh2⟩:∃h2,h1++t=h2:=⟨_,rfl⟩;rw[eh2] at r3 wt;obtain⟨h3,h4,Fb,r4,r5,wb,x4⟩:=n2526 h2 (A.nd x).quirks;obtain⟨b,eb⟩:∃b,h2.length=b:=⟨_,rfl⟩;rw[eb] at r4 r5 wb;obtain⟨wa,dj⟩:=wt.fresh x4;have okD:=arD_ok (A.nd x).quirks;have lmD:Lim (arD (A.nd x).quirks):=by refine⟨?_,λy=>by rw[arD_nd];split<;>simp,λy=>by rw[arD_nd];split<;>simp⟩;show([_]:List ANode).length≤_;simp
 have docD:isDoc (arD (A.nd x).quirks) 1:=⟨arD_has,by rw[arD_nd,if_pos rfl]⟩;have lenD:(arD (A.nd x).quirks).len=1:=rfl;have hab:a≠b:=by obtain⟨n,m,ps,w',e⟩:=wt;have:=w'.lt a (by simp[ids]);omega
 obtain⟨_,B1,h5,Gb,r6,wb5,x5,p6⟩:=E617 (d:=1) (u:=x) (b:=a) ok lm wb (.inr ⟨hab,0,F,wa,dj⟩) lmD okD arD_cl (by omega) (λe=>absurd e hab) (by rw[lenD];omega);rcases p6 with⟨_,_,_,rfl,⟨c1,_,dB⟩,cB⟩|⟨hno,_⟩
 rotate_left
 ·exact absurd ⟨docD,hx,k1⟩ hno
 rw[lenD,show(1:Int)+1=2 from rfl] at r6;obtain⟨wa5,dj5⟩:=wa.keep dj x5;have hB1:B1.len≤4*A.len+4:=by have:=dB.le;have:=bN_le (B:=A) (u:=x);have:A.len=A.n.length:=rfl;rw[lenD] at*;omega
 have lmB:=cB.lim lmD lm (by omega);have bB:Bnd B1 100:=cB.bnd (arD_bnd.mono (by omega)) bA;obtain⟨n5,m5,ps5,w5,e5⟩:=wa5.pa_;obtain⟨z,h6,Fz,r7,wz,x6⟩:=f618 w5 lm (lm.kids ok) (by have:=hx.1;have:=hx.2;omega) (by omega);obtain⟨wa6,djz⟩:=wa5.fresh x6;obtain⟨wb6,djzb⟩:=wb5.fresh x6;have hn4:4*A.len+3≤1000000000:=by omega
 obtain⟨_,A1,h7,F7,r8,wa7,x7,p8⟩:=E619 (x:=x) wa6 lm ok inv.cl (by unfold Ar.len;omega) hn4 true;rcases p8 with⟨_,rfl,⟨c2,hc2,dA⟩,cA⟩|⟨hno,_⟩
 rotate_left
 ·exact absurd hx hno
 obtain⟨wb7,djb7⟩:=wb6.keep (λi hi hb=>dj5 i hb hi) x7;obtain⟨wz7,djz7⟩:=wz.keep (λi hi hz=>djz i hz hi) x7;obtain⟨_,X1,h8,Fz8,r9,wz8,x8,p9⟩:=E619 (x:=x) wz7 lm ok inv.cl (Int.le_refl _) hn4 true;rcases p9 with⟨_,rfl,⟨c3,hc3,dX⟩,cX⟩|⟨hno,_⟩
 rotate_left
 ·exact absurd hx hno
 obtain⟨wa8,dja8⟩:=wa7.keep (λi hi ha=>djz7 i ha hi) x8;obtain⟨wb8,djb8⟩:=wb7.keep (λi hi hb=>djzb i hi hb) x8;have hb1:=bN_le (B:=A) (u:=x);have hAn:A.len=A.n.length:=rfl;have hA1:A1.len≤4*A.len+3:=by have:=dA.le;omega
 have hX1:X1.len≤4*A.len+3:=by have:=dX.le;omega
 have lmA1:=cA.lim lm lm (by omega);have lmX1:=cX.lim lm lm (by omega);have hdoc:isDoc A1 (A.nd x).doc:=by obtain⟨d1,d2⟩:=ok.doc x hx;exact⟨dA.gr.has d1,by rw[dA.gr.nd' d1];exact d2⟩
 have hB2:B1.has 2:=by have:=dB.has;rwa [lenD] at this
 have kB2:(B1.nd 2).kind≠1:=by have:=dB.kd;rw[lenD] at this;rw[show(B1.nd 2).kind=_ from this];exact k1
 have hba:b≠a:=Ne.symm hab;obtain⟨_,A2,h9,F9,r10,wa9,x9,p10⟩:=E617 (d:=(A.nd x).doc) (u:=2) (b:=b) dB.ok lmB wa8 (.inr ⟨hba,0,Gb,wb8,λi hi hb=>djb7 i hi hb⟩) lmA1 dA.ok cA.cl (by have:=dA.gr.len;unfold Ar.len at*;omega) (λe=>absurd e hba) (by omega);rcases p10 with⟨_,_,_,rfl,⟨c4,hc4,dK⟩,cK⟩|⟨hno,_⟩
 rotate_left
 ·exact absurd ⟨hdoc,hB2,kB2⟩ hno
 obtain⟨wb9,_⟩:=wb8.keep (λi hi hb=>djb7 i hi hb) x9;obtain⟨wz9,_⟩:=wz8.keep (λi hi hz=>dja8 i hz hi) x9;have hb2:=bN_le (B:=B1) (u:=2);have hBn:B1.len=B1.n.length:=rfl;have hA2:A2.len≤1000000000:=by have:=dK.le;omega
 have lmA2:=cK.lim lmA1 lmB hA2;have bA2:Bnd A2 100:=cK.bnd (cA.bnd bA bA) bB;have gA:Grow A A2:=dA.gr.trans dK.gr;have sB:Smt B1 A (λ_=>True) 2 x:=by have:=(dB.sim rfl).mono (Q:=λ_=>True) λ_ _=>trivial;rwa [lenD] at this
 have s1:Smt B1 A2 (λ_=>True) 2 x:=sB.keep .refl gA.kpt;have sA:Smt A2 A (λ_=>True) (A.len+1) x:=((dA.sim rfl).mono (Q:=λ_=>True) λ_ _=>trivial).keep dK.gr.kpt .refl;have s2:Smt A2 B1 (λ_=>True) (A.len+1) 2:=sA.trans sB.symm;have sK:Smt A2 B1 (λ_=>True) (A1.len+1) 2:=(dK.sim rfl).mono (Q:=λ_=>True) λ_ _=>trivial;have s3:Smt A2 A2 (λ_=>True) (A1.len+1) x:=sK.trans s1;have sX:Smt X1 A2 (λ_=>True) (A.len+1) x:=((dX.sim rfl).mono (Q:=λ_=>True) λ_ _=>trivial).keep .refl gA.kpt;have s4:Smt X1 A2 (λ_=>True) (A.len+1) (A1.len+1):=sX.trans s3.symm;have q1:=same_w wb9 wa9 lmB lmA2 (lmA2.kids dK.ok) s1;have q2:=same_w wa9 wb9 lmA2 lmB (lmB.kids dB.ok) s2;have q3:=same_w wa9 wa9 lmA2 lmA2 (lmA2.kids dK.ok) s3;have q4:=same_w wz9 wa9 lmX1 lmA2 (lmA2.kids dK.ok) s4;have hB0:(B1.nd 2).host=0:=by have:=dB.host;rwa [lenD] at this
 have ex2:A2.nd x=A.nd x:=gA.nd' hx;have e1:dmp B1 1000000000 2 0=dmp A 1000000000 x 0:=dmp_sim dB.ok ok sB _ _ λ_=>by rw[hB0,hh]
 have e2:dmp B1 1000000000 2 0=dmp A2 1000000000 x 0:=dmp_sim dB.ok dK.ok s1 _ _ λ_=>by rw[hB0,ex2,hh]
 have hfit:=dmp_fits ok hx hfew hS bA 1000000000;have hmx:maxBytes=140737488355328:=rfl;obtain⟨n9,m9,ps9,wpa,_⟩:=wa9.pa_;obtain⟨n8,m8,ps8,wpb,_⟩:=wb9.pa_;have q5:=f17 wpa dK.ok (bA2.mono (by omega)) (data_le lmA2) (gA.has hx) (by unfold Ar.len at hA2;omega) (by rw[←e2,e1,hmx];exact hfit);have q6:=f17 wpb dB.ok (bB.mono (by omega)) (data_le lmB) hB2 (by omega) (by rw[e1,hmx];exact hfit);rw[←e2] at q5;obtain⟨v1,u1,q7,nv⟩:=f91w wpb lmB (lmB.kids dB.ok) (by omega);have hne:B1.n≠[]:=by intro e;have h1:=hB2.2;rw[e] at h1;simp at h1
 obtain⟨t2,q8⟩:=f413s dB.ok nv hne (by omega) (lmB.kids dB.ok) (λy=>by have:=lmB.at_ y;omega);simp only[amS,Nat.reduceLeDiff,↓reduceIte,bxS,r1,r2,r3,ne_eq,eq_self,k1,hh,r4,r5,r6,r7,r8,r9,r10,ieq,q1,q2,q3,q4,q5,q6,q7,q8,kn];exact⟨_,rfl,rfl⟩
end
end Go.Am
