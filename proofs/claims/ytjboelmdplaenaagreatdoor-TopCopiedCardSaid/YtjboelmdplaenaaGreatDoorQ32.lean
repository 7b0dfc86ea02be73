/- Lemmas -/
import Derived.Test.YtjboelmdplaenaaGreatDoorQ30
import Derived.Test.YtjboelmdplaenaaGreatDoorQ31
set_option linter.unusedVariables false
set_option linter.unusedSimpArgs false
namespace Go.Am
open Go
set_option maxRecDepth 100000
def arD (q:Bool):Ar:={n:=[{kind:=1,doc:=1,quirks:=q}],i:=[0]}
theorem arD_ok (q:Bool):ArOk (arD q) 0:=by
 have h0:ArOk (⟨[],[]⟩:Ar) 0:=by
  have hn:∀h,¬(⟨[],[]⟩:Ar).has h:=λh hh=>by have h1:=hh.1;have h2:=hh.2;simp at h2;omega
  exact⟨rfl,λh hh=>absurd hh (hn h),λh hh=>absurd hh (hn h),λh hh=>absurd hh (hn h),λh hh=>absurd hh (hn h),λh hh=>absurd hh (hn h),λh hh=>absurd hh (hn h),λh hh=>absurd hh (hn h),λh hh=>absurd hh (hn h),λh hh=>absurd hh (hn h),⟨λ_=>0,λh hh=>absurd hh (hn h)⟩⟩
 have hx:NOk {kind:=1,doc:=1,quirks:=q}:=by constructor<;>simp[once,onceF]
 exact ok_add h0 hx (.inl ⟨rfl,rfl⟩) rfl rfl rfl rfl (λh=>absurd h.1 (show¬(1:Int)=4 by decide))
theorem arD_nd {q:Bool} (x:Int):(arD q).nd x=if x=1 then{kind:=1,doc:=1,quirks:=q} else{}:=by
 unfold Ar.nd;by_cases h:x=1
 ·subst h;rfl
 ·rw[if_neg h,if_neg];intro hh;have h1:=hh.1;have h2:=hh.2;simp[arD] at h2;omega
theorem arD_has {q:Bool}:(arD q).has 1:=⟨Int.le_refl 1,Int.le_refl 1⟩
theorem arD_inr {q:Bool} (d:Int):(arD q).inr d=0:=by
 unfold Ar.inr;split
 ·rename_i hh;have h1:=hh.1;have h2:=hh.2;simp[arD] at h2;have:d=1:=by omega
  subst this;rfl
 ·rfl
theorem arD_cl {q:Bool}:Cl (arD q):=λd hd=>absurd (arD_inr d) hd
theorem arD_S {q:Bool}:Wt (arD q) gS=0:=rfl
theorem arD_bnd {q:Bool}:Bnd (arD q) 20:=λx=>by
 rw[arD_nd];split
 ·exact⟨Nat.zero_le _,λ_ h=>(by cases h),Nat.zero_le _,Nat.zero_le _,Nat.zero_le _⟩
 ·exact okN.zero
theorem arD_inv {q:Bool}:AInv 1 0 (arD q):=by refine⟨arD_ok q,arD_cl,show 1+1≤4^0*(4*1+4) by decide,?_,arD_bnd.mono (by omega)⟩;have h1:=U_le (A:=arD q);rw[arD_S] at*;omega
section
variable {h h':AHeap} {a:Nat} {A:Ar} {F:Nat→Prop} {v:AVal} {l:List LQ}
theorem n25 (h:AHeap):Ret cx 8 [] h (.ptr (some (h.length,0))) (h++[.cells [.slnil,.map none]]):=by rw[ret_iff,t8_eq,t8];simp only[amS,↓reduceIte,fillAt,bxS]
theorem na_new (h:AHeap):NA (h++[.cells [.slnil,.map none]]) h.length:=by unfold NA;simp
theorem n26 (na:NA h a) (q:Bool):∃h',Ret cx 9 [.ptr (some (a,0)),.bool q] h (I 1) h'∧PA 0 h' a h.length none [⟨{kind:=1,doc:=1,quirks:=q},.slnil,.slnil,rfl⟩] (arD q)∧h'.length=h.length+1∧∀i,i<h.length→i≠a→h'[i]?=h[i]?:=by
 have hal:a<h.length:=(List.getElem?_eq_some_iff.1 na).1;have g2:hgrow h 13 168 .slnil (.sl 13 [[I 1,I 0,.slnil,I 0,I 0,S [],.slnil,S [],S [],S [],.bool q,I 0,I 0]])=some (h++[.cells [I 1,I 0,.slnil,I 0,I 0,S [],.slnil,S [],S [],S [],.bool q,I 0,I 0]],.msl h.length 0 1 13):=rfl;have t1:At h a 0 .slnil:=⟨_,na,rfl⟩;have c2:(h++[AObj.cells [I 1,I 0,.slnil,I 0,I 0,S [],.slnil,S [],S [],S [],.bool q,I 0,I 0]])[a]?=some (.cells [.slnil,.map none]):=(List.getElem?_append_left hal).trans na;have n2:(h++[AObj.cells [I 1,I 0,.slnil,I 0,I 0,S [],.slnil,S [],S [],S [],.bool q,I 0,I 0]])[h.length]?=some (.cells [I 1,I 0,.slnil,I 0,I 0,S [],.slnil,S [],S [],S [],.bool q,I 0,I 0]):=by simp
 have hl2:(h++[AObj.cells [I 1,I 0,.slnil,I 0,I 0,S [],.slnil,S [],S [],S [],.bool q,I 0,I 0]]).length=h.length+1:=by simp
 have o2:∀i,i<h.length→i≠a→(h++[AObj.cells [I 1,I 0,.slnil,I 0,I 0,S [],.slnil,S [],S [],S [],.bool q,I 0,I 0]])[i]?=h[i]?:=λi hi _=>List.getElem?_append_left hi;generalize h++[AObj.cells [I 1,I 0,.slnil,I 0,I 0,S [],.slnil,S [],S [],S [],.bool q,I 0,I 0]]=H2 at*;have t2:At H2 a 0 .slnil:=⟨_,c2,rfl⟩;have s2:=t2.store (u:= .msl h.length 0 1 13) rfl;have c3:=put_cells (k:=0) (v:= .msl h.length 0 1 13) c2;have n3:(put H2 a 0 (.msl h.length 0 1 13))[h.length]?=_:=(put_other (by omega)).trans n2;have l3':(put H2 a 0 (.msl h.length 0 1 13)).length=h.length+1:=by rw[put_of c2,List.length_set,hl2]
 have o3:∀i,i<h.length→i≠a→(put H2 a 0 (.msl h.length 0 1 13))[i]?=h[i]?:=λi hi hn=>(put_other hn).trans (o2 i hi hn);generalize put H2 a 0 (.msl h.length 0 1 13)=H3 at*;have l3:hload H3 none (.ptr (some (a,0)))=some (.msl h.length 0 1 13):=At.load ⟨_,c3,rfl⟩;have e4:peval (.eaddr 13) [.msl h.length 0 1 13,I 0]=some (.ptr (some (h.length,0))):=eaddr_msl (k:= .i64) (i:=0) (by decide);have t3:At H3 h.length 3 (I 0):=⟨_,n3,rfl⟩;have s3:=t3.store (u:=I 1) rfl;have c4:(put H3 h.length 3 (I 1))[a]?=_:=(put_other (by omega)).trans c3;have n4:=put_cells (k:=3) (v:=I 1) n3;have r1:Ret cx 26 [.ptr (some (a,0)),.agg [I 1,I 0,.slnil,I 0,I 0,S [],.slnil,S [],S [],S [],.bool q,I 0,I 0]] h (I 1) H3:=by rw[ret_iff,t26_eq,t26];simp only[amS,Nat.reduceLeDiff,↓reduceIte,fillAt,bxS,t1.load,show peval (.mksl 13) [.agg [I 1,I 0,.slnil,I 0,I 0,S [],.slnil,S [],S [],S [],.bool q,I 0,I 0]]=some (.sl 13 [[I 1,I 0,.slnil,I 0,I 0,S [],.slnil,S [],S [],S [],.bool q,I 0,I 0]]) from rfl,g2,s2,l3,show peval (.len false) [.msl h.length 0 1 13]=some (I 1) from rfl]
 have r2:Ret cx 24 [.ptr (some (a,0)),I 1] H3 (.ptr (some (h.length,0))) H3:=by rw[ret_iff,t24_eq,t24];simp only[amS,bxS,l3,show peval (.int .sub) [I 1,I 1]=some (I 0) from rfl,e4]
 refine⟨put H3 h.length 3 (I 1),?_,⟨rfl,rfl,c4,n4,?_,?_,.inl ⟨rfl,arD_inr⟩,?_⟩,?_,λi hi hn=>(put_other (by omega)).trans (o3 i hi hn)⟩
 ·rw[ret_iff,t9_eq,t9];simp only[amS,Nat.reduceLeDiff,↓reduceIte,fillAt,bxS,r1,r2,s3]
 ·intro p hp;rw[List.mem_singleton] at hp;subst hp;exact .inl ⟨rfl,rfl⟩
 ·simp[ids,kid?];omega
 ·intro y h1 h2;unfold pN;simp only[List.getD_eq_getElem?_getD]
  cases hy:(y.toNat-1) with
  |zero=>exact .inl rfl
  |succ k=>exact .inl rfl
 ·rw[put_of n3,List.length_set,l3']
theorem n2526 (h:AHeap) (q:Bool):∃h1 h' F',Ret cx 8 [] h (.ptr (some (h.length,0))) h1∧Ret cx 9 [.ptr (some (h.length,0)),.bool q] h1 (I 1) h'∧PW 0 h' F' h.length (arD q)∧Ext h (λ_=>False) h' F':=by
 obtain⟨h',r2,w,hl,ho⟩:=n26 (na_new h) q;refine⟨_,h',_,n25 h,r2,w.pw_,?_,λi hi _=>?_,λi hi=> .inr ?_⟩
 ·simp at hl;omega
 ·rw[ho i (by simp;omega) (by omega),List.getElem?_append_left hi]
 ·simp[ids,kid?] at hi;rcases hi with rfl|rfl
  ·exact Nat.le_refl _
  ·omega
def Left (h:AHeap) (F:Nat→Prop) (a n:Nat) (c:Nat):Prop:=(NA h a∧F=λi=>i=a)∨∃A k d,PW 0 h F a A∧AInv k d A∧k+d≤n∧d≤c
theorem ext_new (h:AHeap):Ext h (λ_=>False) (h++[.cells [.slnil,.map none]]) (λi=>i=h.length):=
 ⟨by simp,λi hi _=>List.getElem?_append_left hi,λi hi=> .inr (by omega)⟩
theorem f616 (hv:IsLops l v) (hl:l.length≤40) (hc:cnt l≤8) (ho:∀q∈l,q.o.Ok) (h:AHeap):∃h' F',Ret cx 6 [v] h (.ptr (some (h.length,0))) h'∧Ext h (λ_=>False) h' F'∧Left h' F' h.length 40 8:=by
 have lm:=IsSl.lenM hv;have hev:Ev cx 6 [v] h λr h'=>r= .ptr (some (h.length,0))∧∃F',Ext h (λ_=>False) h' F'∧Left h' F' h.length 40 8:=by
  unfold Ev;rw[t6_eq,t6];simp only[amS,bxS,n25 h];refine W_loop_st (λn:Nat=>[.int .i64 (n:Int)]) (λn h1=>n≤l.length∧∃F',Ext h (λ_=>False) h1 F'∧Left h1 F' h.length n (cnt (l.take n))) (λn=>l.length-n) 0 rfl ⟨Nat.zero_le _,_,ext_new h,.inl ⟨na_new h,rfl⟩⟩ ?_;rintro n h1 ⟨hn,F1,x1,hL⟩;rcases Nat.lt_or_ge n l.length with hlt|hge
  ·have e1:=IsSl.eaddrM (k:= .i64) hv hlt;have e2:hload h1 (some 10) (.rptr (LQ.row l[n]))=some (.agg (l[n].o.row l[n].v)):=rfl;have nx:=cnt_next hlt;have hm:=ho _ (List.getElem_mem hlt);have c8:cnt (l.take n)≤8:=Nat.le_trans cnt_mono hc;have hle:∀{k d:Nat},k+d≤n→d≤cnt (l.take n)→k+d≤39∧k+d≤40∧d≤8:=λh1 h2=>by omega
   rcases hL with⟨na,rfl⟩|⟨A,k,d,w,inv,hkd,hd⟩
   ·by_cases hk:l[n].o.kind=1
    ·obtain⟨h2,r2,w2,l2,o2⟩:=n26 na l[n].o.flag;have r3:Ret cx 22 [.ptr (some (h.length,0)),.agg (l[n].o.row l[n].v)] h1 (tup 1 0) h2:=by
      have r4:Ret cx 66 [.ptr (some (h.length,0)),.agg (l[n].o.row l[n].v)] h1 (tup 1 0) h2:=by rw[ret_iff,t66_eq,t66,LOp.row];simp only[amS,Nat.reduceLeDiff,↓reduceIte,bxS,hk,Int.reduceEq,eq_self,r2]
      rw[LOp.row] at r4;rw[ret_iff,t22_eq,t22,LOp.row];simp only[amS,Nat.reduceLeDiff,↓reduceIte,bxS,hk,Int.reduceEq,eq_self];rw[hk] at r4;simp only[r4,amS]
     simp only[amS,Nat.reduceLeDiff,↓reduceIte,bxS,lm,show(n:Int)<(l.length:Int) by omega,e1,e2,r3,pe_incN n];refine LoopPost.next (n+1) rfl ⟨hlt,_,x1.trans ⟨by omega,λi hi hF=>o2 i hi hF,λi hi=>?_⟩,.inr ⟨_,1,0,w2.pw_,arD_inv,by omega,Nat.zero_le _⟩⟩ (by omega);simp[ids,kid?] at hi;rcases hi with rfl|rfl
     ·exact .inl rfl
     ·exact .inr (Nat.le_refl _)
    ·obtain⟨t,p,q,r3⟩:=n625 na l[n].v hk;simp only[amS,Nat.reduceLeDiff,↓reduceIte,bxS,lm,show(n:Int)<(l.length:Int) by omega,e1,e2,r3,pe_incN n];exact LoopPost.next (n+1) rfl ⟨hlt,_,x1.trans .app,.inl ⟨na.app,rfl⟩⟩ (by omega)
   ·obtain⟨b1,b2,b3⟩:=hle hkd hd;obtain⟨_,A2,h2,F2,r3,w2,x2,⟨p,q,rfl⟩,p2⟩:=E625 w (inv.roo b2 b3) inv.ok inv.cl (inv.norm b1 b3) (by have:=inv.len b2 b3;omega) l[n].ok hm;simp only[amS,Nat.reduceLeDiff,↓reduceIte,bxS,lm,show(n:Int)<(l.length:Int) by omega,e1,e2,r3,pe_incN n];refine LoopPost.next (n+1) rfl ⟨hlt,F2,x1.trans x2,.inr ?_⟩ (by omega);rcases inv.stp p2 with i2|⟨hq,i2⟩
    ·exact⟨A2,k+1,d,w2,i2,by omega,by rw[nx];omega⟩
    ·exact⟨A2,k,d+1,w2,i2,by omega,by rw[nx,if_pos hq];omega⟩
  ·rw[List.take_of_length_le hge] at hL;simp only[amS,Nat.reduceLeDiff,↓reduceIte,bxS,lm,show¬(n:Int)<(l.length:Int) by omega];refine⟨_,rfl,rfl,F1,x1,?_⟩;rcases hL with hL|⟨A,k,d,w,inv,hkd,hd⟩
   ·exact .inl hL
   ·exact .inr ⟨A,k,d,w,inv,by omega,by omega⟩
 obtain⟨_,h',r1,rfl,F',x,hL⟩:=hev.ret;exact⟨h',F',r1,x,hL⟩
end
end Go.Am
