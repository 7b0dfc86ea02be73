/- Lemmas -/
import Derived.Test.YtjboelmdplaenaaGreatDoorQ28
set_option linter.unusedVariables false
set_option linter.unusedSimpArgs false
section
namespace Go.Am
open Go
set_option maxRecDepth 100000
section
variable {h h' h1 h2:AHeap} {a n:Nat} {m:Option Nat} {ps:List PN} {A A' A0:Ar} {sf:Int} {x p c d:Int} {e:Int} {v V F':AVal} {l:List Attr} {F:Nat→Prop} {s:Bytes}
open Classical in
theorem E637 (w:PW 0 h F a A) (lm:Lim A) (ok:ArOk A 0) (cl:Cl A) (hb:A.len+3≤1000000000):
  Eff 0 59 [.ptr (some (a,0)),.int .i64 p,.int .i64 x] h F a (Mov A):=by
 obtain⟨n,m,ps,w',rfl⟩:=w.pa_;have hkb:=lm.kids ok;have hv:IsInts [p,x] (.sl 1 [[.int .i64 p],[.int .i64 x]]):= .inl rfl;obtain⟨t,r1⟩:=f562g w' lm hkb hv (by simp) 1;have w1:=w'.app (t:=t);by_cases hk:okH A 1 [p,x]
 ·rw[if_pos hk] at r1;have h0:=hk 0 (by simp);have h1:=hk 1 (by simp);simp at h0 h1;obtain⟨t2,r2⟩:=f626 w1 lm hkb p;have w2:=w1.app (t:=t2);have g2:Fre h (h++t++t2):=Fre.app.trans .app;by_cases hx0:x=0
  ·by_cases kp:(A.nd p).kind=4∨(A.nd p).kind=2
   ·obtain⟨_,A3,h3,F3,q3,w3,x3,rfl,m3,i3⟩:=E633 (x:=p) w2.pw_ lm ok h0;refine⟨I 0,A3,h3,F3,?_,w3,g2.ext.trans x3,⟨_,rfl⟩,m3.mono (by omega),cl.of i3⟩
    ·rw[ret_iff,t59_eq,t59];subst hx0;rcases kp with kp|kp<;>simp only[amS,Nat.reduceLeDiff,↓reduceIte,bxS,em2,r1,ne_eq,eq_self,r2,kp,ieq,q3]
   ·have k4:¬(A.nd p).kind=4:=λh=>kp (.inl h);have k2:¬(A.nd p).kind=2:=λh=>kp (.inr h);refine⟨I 9,A,_,_,?_,w2.pw_,g2.ext,.same ok cl⟩;rw[ret_iff,t59_eq,t59];simp only[amS,Nat.reduceLeDiff,↓reduceIte,bxS,em2,r1,ne_eq,eq_self,r2,k4,k2]
  ·have hx:A.has x:=h1.resolve_left hx0;by_cases kp:(A.nd p).kind=4∨(A.nd p).kind=2
   ·obtain⟨t3,r3⟩:=f626 w2 lm hkb x;have w3:=w2.app (t:=t3);have g3:=g2.trans (.app (t:=t3));by_cases kx:(A.nd x).kind=2
    ·have r4:=f197w w3 ok hx h0;by_cases hr:Reach A x p
     ·rw[decide_eq_true hr] at r4;refine⟨I 4,A,_,_,?_,w3.pw_,g3.ext,.same ok cl⟩;rw[ret_iff,t59_eq,t59];rcases kp with kp|kp<;>simp only[amS,Nat.reduceLeDiff,↓reduceIte,bxS,em2,r1,ne_eq,eq_self,r2,kp,ieq,hx0,r3,kx,r4]
     ·rw[decide_eq_false hr] at r4;obtain⟨_,A3,h3,F3,q3,w4,x3,rfl,m3,i3⟩:=E633 (x:=p) w3.pw_ lm ok h0;have c3:Cl A3:=cl.of i3;obtain⟨_,A4,h4,F4,q4,w5,x4,rfl,m4,c4⟩:=E652 (p:=p) (x:=x) (c:=0) w4 (m3.lim lm (by have:=lm.n;omega)) m3.ok c3 (m3.has h0) (m3.has hx) (by have:=m3.up;omega);refine⟨I 0,A4,h4,F4,?_,w5,(g3.ext.trans x3).trans x4,⟨_,rfl⟩,(m3.trans m4).mono (by omega),c4⟩;rw[ret_iff,t59_eq,t59];rcases kp with kp|kp<;>simp only[amS,Nat.reduceLeDiff,↓reduceIte,bxS,em2,r1,ne_eq,eq_self,r2,kp,ieq,hx0,r3,kx,r4,q3,q4]
    ·refine⟨I 4,A,_,_,?_,w3.pw_,g3.ext,.same ok cl⟩;rw[ret_iff,t59_eq,t59];rcases kp with kp|kp<;>simp only[amS,Nat.reduceLeDiff,↓reduceIte,bxS,em2,r1,ne_eq,eq_self,r2,kp,ieq,hx0,r3,kx]
   ·have k4:¬(A.nd p).kind=4:=λh=>kp (.inl h);have k2:¬(A.nd p).kind=2:=λh=>kp (.inr h);refine⟨I 9,A,_,_,?_,w2.pw_,g2.ext,.same ok cl⟩;rw[ret_iff,t59_eq,t59];simp only[amS,Nat.reduceLeDiff,↓reduceIte,bxS,em2,r1,ne_eq,eq_self,r2,k4,k2]
 ·rw[if_neg hk] at r1;refine⟨I 3,A,_,_,?_,w1.pw_,.app,.same ok cl⟩;rw[ret_iff,t59_eq,t59];simp only[amS,bxS,em2,r1,ne_eq,ieq]
theorem lim_add {y:ANode} (lm:Lim A) (hn:A.len+1≤1000000000) (h1:y.attrs.length≤1000000000) (h2:y.data.length≤20000000000000):Lim (A.add y):=by
 refine⟨?_,λx=>?_,λx=>?_⟩
 ·have:(A.add y).n.length=A.n.length+1:=by simp[Ar.add]
  unfold Ar.len at hn;omega
 ·rw[nd_add];split;exact h1;exact lm.at_ x
 ·rw[nd_add];split;exact h2;exact lm.data x
theorem i46:¬(4:Int)=6∧¬(4:Int)=5∧¬(2:Int)=5∧¬(2:Int)=6∧¬(2:Int)=4:=by decide
theorem leaf_ok {y:ANode} (hk:y.kind=5∨y.kind=6) (h:y={kind:=y.kind,doc:=y.doc,data:=y.data}):NOk y:=by rw[h];rcases hk with hk|hk<;>rw[hk]<;>constructor<;>simp[once,onceF]
theorem E624 (w:PW 0 h F a A) (ro:Roo A) (ok:ArOk A 0) (cl:Cl A) (hs:s.length≤400):
  Eff 0 21 [.ptr (some (a,0)),.int .i64 x,.str s] h F a λr A'=>(∃e,r= .int .i64 e)∧Ste A A' 1 400 0:=by
 have lm:=ro.lim;obtain⟨n,m,ps,w',rfl⟩:=w.pa_;have hkb:=lm.kids ok;have hv:IsInts [x] (.sl 1 [[.int .i64 x]]):= .inl rfl;obtain⟨t,r1⟩:=f562g w' lm hkb hv (by simp) (-1);have w1:=w'.app (t:=t);have same:Ste A A 1 400 0:=(Ste.refl ok cl).mono (by omega) (by omega) (by omega);by_cases hk:okH A (-1) [x]
 ·rw[if_pos hk] at r1;have hx:=hk 0 (by simp);simp at hx;obtain⟨t2,r2⟩:=f626 w1 lm hkb x;have w2:=w1.app (t:=t2);have g2:Fre h (h++t++t2):=Fre.app.trans .app;by_cases k56:(A.nd x).kind=5∨(A.nd x).kind=6
  ·obtain⟨_,A3,h3,F3,q3,w3,x3,⟨e,rfl⟩,p3⟩:=E36 (x:=x) w2.pw_ lm s;refine⟨.int .i64 e,A3,h3,F3,?_,w3,g2.ext.trans x3,⟨_,rfl⟩,?_⟩
   ·rw[ret_iff,t21_eq,t21];rcases k56 with k5|k5<;>simp only[amS,Nat.reduceLeDiff,↓reduceIte,bxS,em1,r1,ne_eq,eq_self,r2,k5,ieq,q3]
   ·rcases p3 with⟨_,_,rfl⟩|rfl
    ·exact(Ste.data ok cl hx k56).mono (by omega) hs (by omega)
    ·exact same
  ·have k5:¬(A.nd x).kind=5:=λh=>k56 (.inl h);have k6:¬(A.nd x).kind=6:=λh=>k56 (.inr h);by_cases k42:(A.nd x).kind=4∨(A.nd x).kind=2
   ·obtain⟨_,A3,h3,F3,q3,w3,x3,rfl,m3,i3⟩:=E633 (x:=x) w2.pw_ lm ok hx;have c3:=cl.of i3;have s3:Ste A A3 0 0 0:= .of m3 c3;by_cases h0:s=[]
    ·refine⟨I 0,A3,h3,F3,?_,w3,g2.ext.trans x3,⟨_,rfl⟩,s3.mono (by omega) (by omega) (by omega)⟩;rw[ret_iff,t21_eq,t21];rcases k42 with k4|k4<;>simp only[amS,Nat.reduceLeDiff,↓reduceIte,bxS,em1,r1,ne_eq,eq_self,r2,k4,ieq,i46,q3,h0]
    ·have lm3:=s3.lim ro (by omega) (by omega) (by omega);obtain⟨n3,m3',ps3,w3',rfl⟩:=w3.pa_;obtain⟨t4,r4⟩:=f629 w3' lm3 (lm3.kids m3.ok) x;have w4:=w3'.app (t:=t4);have hx3:=m3.has hx;have hd:=m3.ok.doc x hx3;obtain⟨_,A5,h5,F5,q5,w5,x5,p5⟩:=E37 (d:=(A3.nd x).doc) w4.pw_ lm3 (by have:=s3.len ro (by omega);omega) s;rcases p5 with⟨_,rfl,rfl⟩|⟨hn,_⟩
     ·have s5:Ste A3 (A3.add {kind:=5,doc:=(A3.nd x).doc,data:=s}) 1 s.length 0:= .add m3.ok c3 (leaf_ok (.inl rfl) rfl) (.inr ⟨show(5:Int)≠1 by decide,hd⟩) rfl rfl rfl rfl (show(5:Int)≠4 by decide) ⟨Nat.zero_le _,λ_ h=>(by cases h),Nat.zero_le _,Nat.zero_le _,Nat.zero_le _⟩;have s35:=s3.trans s5;have lm5:=s35.lim ro (by omega) (by omega) (by omega);obtain⟨_,A6,h6,F6,q6,w6,x6,⟨e,rfl⟩,rfl⟩:=E112 (p:=x) (x:=A3.len+1) (b:=0) w5 lm5 s5.ok λhp hx=>⟨by have:=hp.1;omega,cut_hard s5.ok hx⟩;refine⟨.int .i64 e,_,h6,F6,?_,w6,((g2.ext.trans x3).trans (Ext.app.trans x5)).trans x6,⟨_,rfl⟩,(s35.trans (.of (.tput s5.ok) (s5.cl.of λ_=>tput_inr))).mono (by omega) (by omega) (by omega)⟩;rw[ret_iff,t21_eq,t21];rcases k42 with k4|k4<;>simp only[amS,Nat.reduceLeDiff,↓reduceIte,bxS,em1,r1,ne_eq,eq_self,r2,k4,ieq,i46,q3,h0,r4,q5,q6]
     ·exact absurd hd hn
   ·have k4:¬(A.nd x).kind=4:=λh=>k42 (.inl h);have k2:¬(A.nd x).kind=2:=λh=>k42 (.inr h);refine⟨I 0,A,_,_,?_,w2.pw_,g2.ext,⟨_,rfl⟩,same⟩;rw[ret_iff,t21_eq,t21];simp only[amS,Nat.reduceLeDiff,↓reduceIte,bxS,em1,r1,ne_eq,eq_self,r2,k4,k2,k5,k6]
 ·rw[if_neg hk] at r1;refine⟨I 3,A,_,_,?_,w1.pw_,.app,⟨_,rfl⟩,same⟩;rw[ret_iff,t21_eq,t21];simp only[amS,bxS,em1,r1,ne_eq,ieq]
end
end Go.Am
end
section
namespace Go.Am
open Go
set_option maxRecDepth 100000
section
variable {h h' h1 h2:AHeap} {a n:Nat} {m:Option Nat} {ps:List PN} {A A' A0:Ar} {sf:Int} {x p c d:Int} {e:Int} {v V F':AVal} {l:List Attr} {F:Nat→Prop} {s:Bytes}
theorem E642 (w:PW 0 h F a A) (ro:Roo A) (ok:ArOk A 0) (cl:Cl A) (i:Int):
  Eff 0 65 [.ptr (some (a,0)),.int .i64 x,.int .i64 i] h F a λr A'=>(∃b e,r=tup b e)∧Ste A A' 1 0 0:=by
 have lm:=ro.lim;obtain⟨n,m,ps,w',rfl⟩:=w.pa_;have hkb:=lm.kids ok;have hv:IsInts [x] (.sl 1 [[.int .i64 x]]):= .inl rfl;obtain⟨t,r1⟩:=f562g w' lm hkb hv (by simp) (-1);have w1:=w'.app (t:=t);have same:Ste A A 1 0 0:=(Ste.refl ok cl).mono (by omega) (by omega) (by omega);by_cases hk:okH A (-1) [x]
 ·rw[if_pos hk] at r1;have hx:=hk 0 (by simp);simp at hx;obtain⟨rr,t2,r2,K,V,rfl,_⟩:=f97w (x:=x) w1 lm (hkb _);rw[if_pos hx] at r2;have w2:=w1.app (t:=t2);have g2:Fre h (h++t++t2):=Fre.app.trans .app;by_cases k5:(A.nd x).kind=5
  ·by_cases i0:i<0
   ·refine⟨tup 0 2,A,_,_,?_,w2.pw_,g2.ext,⟨_,_,rfl⟩,same⟩;rw[ret_iff,t65_eq,t65];simp only[amS,Nat.reduceLeDiff,↓reduceIte,bxS,em1,r1,ne_eq,eq_self,r2,k5,i0]
   ·by_cases i9:((A.nd x).data.length:Int)<i
    ·refine⟨tup 0 2,A,_,_,?_,w2.pw_,g2.ext,⟨_,_,rfl⟩,same⟩;rw[ret_iff,t65_eq,t65];simp only[amS,Nat.reduceLeDiff,↓reduceIte,bxS,em1,r1,ne_eq,eq_self,r2,k5,i0,i9]
    ·obtain⟨k,rfl⟩:∃k:Nat,i=(k:Int):=⟨i.toNat,by omega⟩;have hkl:k≤(A.nd x).data.length:=by omega
     have s1:=slcLo (s:=(A.nd x).data) (k:= .i64) (z:=0) hkl;have s2:=slcHi (s:=(A.nd x).data) (k:= .i64) (z:=0) hkl;have hd:=ok.doc x hx;obtain⟨_,A5,h5,F5,q5,w5,x5,p5⟩:=E37 (d:=(A.nd x).doc) w2.pw_ lm (by have:=ro.len;omega) ((A.nd x).data.drop k);rcases p5 with⟨_,rfl,rfl⟩|⟨hn,_⟩
     ·have s5:Ste A (A.add {kind:=5,doc:=(A.nd x).doc,data:=(A.nd x).data.drop k}) 1 ((A.nd x).data.drop k).length 0:= .add ok cl (leaf_ok (.inl rfl) rfl) (.inr ⟨show(5:Int)≠1 by decide,hd⟩) rfl rfl rfl rfl (show(5:Int)≠4 by decide) ⟨Nat.zero_le _,λ_ h=>(by cases h),Nat.zero_le _,Nat.zero_le _,Nat.zero_le _⟩;have dl:(A.nd x).data.length≤20000000000000:=lm.data x;have lm5:Lim (A.add {kind:=5,doc:=(A.nd x).doc,data:=(A.nd x).data.drop k}):=lim_add lm (by have:=ro.len;omega) (Nat.zero_le _) (by show((A.nd x).data.drop k).length≤_;rw[List.length_drop];omega);have nx:(A.add {kind:=5,doc:=(A.nd x).doc,data:=(A.nd x).data.drop k}).nd x=A.nd x:=by rw[nd_add,if_neg (by have:=has_lt hx;omega)]
      obtain⟨n5,m5,ps5,w5',rfl⟩:=w5.pa_;obtain⟨h6,ps6,q6,w6,x6⟩:=f36w (x:=x) (s:=(A.nd x).data.take k) w5' lm5 (s5.has hx) (by rw[nx];exact k5);have s6:=Ste.data (s:=(A.nd x).data.take k) s5.ok s5.cl (s5.has hx) (.inl (by rw[nx];exact k5));have s56:Ste A ((A.add {kind:=5,doc:=(A.nd x).doc,data:=(A.nd x).data.drop k}).setData x ((A.nd x).data.take k)) 1 0 0:=by have g:=s5.trans s6;refine⟨g.ok,g.cl,g.le,g.up,?_,g.bn⟩;have e1:Wt (A.add {kind:=5,doc:=(A.nd x).doc,data:=(A.nd x).data.drop k}) gS=Wt A gS+((A.nd x).data.drop k).length:=Wt.add;have e2:=Wt.set (x:={A.nd x with data:=(A.nd x).data.take k}) (g:=gS) (s5.has hx);rw[nx] at e2;have e3:gS {A.nd x with data:=(A.nd x).data.take k}=((A.nd x).data.take k).length:=rfl;have e4:gS (A.nd x)=(A.nd x).data.length:=rfl;unfold Ar.setData;rw[nx];rw[List.length_drop] at e1;rw[List.length_take] at e3;omega
      have lm6:=s56.lim ro (by omega) (by omega) (by omega);by_cases hp:(A.nd x).par=0
      ·refine⟨tup (A.len+1) 0,_,h6,_,?_,w6.pw_,(g2.ext.trans x5).trans x6,⟨_,_,rfl⟩,s56⟩;rw[ret_iff,t65_eq,t65];simp only[amS,Nat.reduceLeDiff,↓reduceIte,bxS,em1,r1,ne_eq,eq_self,r2,k5,i0,i9,s1,s2,q5,q6,hp]
      ·obtain⟨y,q7⟩:=f651 (x:=x) w6 lm6 s56.ok (s56.has hx);obtain⟨_,A8,h8,F8,q8,w8,x8,⟨e,rfl⟩,rfl⟩:=E112 (p:=(A.nd x).par) (x:=A.len+1) (b:=y) w6.pw_ lm6 s56.ok λhp hx=>⟨by have:=hp.1;omega,cut_hard s56.ok hx⟩;refine⟨tup (A.len+1) 0,_,h8,F8,?_,w8,((g2.ext.trans x5).trans x6).trans x8,⟨_,_,rfl⟩,s56.trans (.of (.tput s56.ok) (s56.cl.of λ_=>tput_inr))⟩;rw[ret_iff,t65_eq,t65];simp only[amS,Nat.reduceLeDiff,↓reduceIte,bxS,em1,r1,ne_eq,eq_self,r2,k5,i0,i9,s1,s2,q5,q6,hp,q7,q8]
     ·exact absurd hd hn
  ·refine⟨tup 0 9,A,_,_,?_,w2.pw_,g2.ext,⟨_,_,rfl⟩,same⟩;rw[ret_iff,t65_eq,t65];simp only[amS,Nat.reduceLeDiff,↓reduceIte,bxS,em1,r1,ne_eq,eq_self,r2,k5]
 ·rw[if_neg hk] at r1;refine⟨tup 0 3,A,_,_,?_,w1.pw_,.app,⟨_,_,rfl⟩,same⟩;rw[ret_iff,t65_eq,t65];simp only[amS,bxS,em1,r1,ne_eq,ieq]
end
end Go.Am
end
section
namespace Go.Am
open Go
set_option maxRecDepth 100000
section
variable {A A' A1 A2:Ar} {x y z h f d:Int} {k pend:Nat} {e:Int} {D:Bytes} {g:ANode→Nat}
def belA (A:Ar):Nat→Int→List Int
 |0,_=>[]
 |f+1,x=>(A.nd x).kids.flatMap λy=>y::belA A f y
theorem sum_flat {g:Int→Nat} {w:Int→List Int}:∀{ks:List Int},((ks.flatMap λy=>y::w y).map g).sum=(ks.map λy=>g y+((w y).map g).sum).sum
 |[]=>rfl
 |y::ks=>by have:=sum_flat (g:=g) (w:=w) (ks:=ks);simp only[List.flatMap_cons,List.map_append,List.map_cons,List.sum_append,List.sum_cons,List.cons_append] at this⊢;omega
theorem sum_le' {ks:List Int} {f g:Int→Nat} (h:∀y∈ks,f y≤g y):(ks.map f).sum≤(ks.map g).sum:=by
 induction ks with
 |nil=>exact Nat.le_refl _
 |cons a l ih=>have:=h a (by simp);have:=ih λy hy=>h y (List.mem_cons_of_mem _ hy);simp;omega
theorem sum_eq' {ks:List Int} {f g:Int→Nat} (h:∀y∈ks,f y=g y):(ks.map f).sum=(ks.map g).sum:=by rw[List.map_congr_left h]
theorem bel_sum (ok:ArOk A e) (g:Int→Nat):∀{f:Nat} {x:Int},A.has x→((belA A f x).map g).sum+g x≤Below' A g x
 |0,x,hx=>by have:=below_sum ok g hx (ks:=[]) ⟨List.nodup_nil,λ_ h=>by cases h⟩;simpa[belA] using this
 |f+1,x,hx=>by
  unfold belA;rw[sum_flat];have h1:((A.nd x).kids.map λy=>g y+((belA A f y).map g).sum).sum≤((A.nd x).kids.map (Below' A g)).sum:=sum_le' λy hy=>by have:=bel_sum ok g (f:=f) ((kin_kids ok hx).2 y hy).1;omega
  have:=below_sum ok g hx (kin_kids ok hx);omega
theorem bel_mem (ok:ArOk A e):∀{f:Nat} {x z:Int},A.has x→z∈belA A f x→A.has z
 |0,x,z,_,h=>by cases h
 |f+1,x,z,hx,h=>by
  obtain⟨y,hy,hz⟩:=List.mem_flatMap.1 h;obtain⟨h1,h2⟩:=ok.kid x hx y hy;rcases List.mem_cons.1 hz with rfl|hz
  ·exact h1
  ·exact bel_mem ok (f:=f) h1 hz
theorem bel_few (ok:ArOk A e) {f:Nat} (hx:A.has x):(belA A f x).length≤A.n.length:=by
 have h1:=bel_sum ok (λ_=>1) (f:=f) hx;have h2:=below_one (A:=A) (h:=x);have:((belA A f x).map λ_=>1).sum=(belA A f x).length:=by
  generalize belA A f x=l
  induction l with
  |nil=>rfl
  |cons a l ih=>simp only[List.map_cons,List.sum_cons,List.length_cons,ih];omega
 omega
theorem below_g:Below' A (λx=>g (A.nd x)) h≤Wt A g:=by
 refine Nat.le_trans below_all (Nat.le_of_eq ?_);have:((List.range A.n.length).map λi:Nat=>g (A.nd ((i:Int)+1)))=A.n.map g:=by
  apply List.ext_getElem
  ·simp
  ·intro i h1 h2;have hl:i<A.n.length:=by simpa using h1
   have hh:A.has ((i:Int)+1):=by unfold Ar.has;omega
   have e:=(nd_get hh).2 (by have:=(nd_get hh).1;exact this);simp only[List.getElem_map,List.getElem_range,e]
   congr 2
 rw[this];rfl
def Kw (A:Ar) (x:Int):Nat:=((A.nd x).kids.map λk=>gU (A.nd k)).sum
theorem kw_bel:∀{f:Nat} {x:Int},((belA A f x).map (Kw A)).sum+Kw A x=((belA A (f+1) x).map λz=>gU (A.nd z)).sum
 |0,x=>by unfold belA;rw[sum_flat];simp[belA,Kw]
 |f+1,x=>by
  have ih:∀y,Kw A y+((belA A f y).map (Kw A)).sum=((belA A (f+1) y).map λz=>gU (A.nd z)).sum:=λy=>by have:=kw_bel (f:=f) (x:=y);omega
  rw[belA,sum_flat,sum_eq' (λy _=>ih y)]
  conv=>rhs;rw[belA,sum_flat]
  have:∀(l:List Int) (u v:Int→Nat),(l.map u).sum+(l.map v).sum=(l.map λy=>v y+u y).sum:=λl u v=>by
   induction l with
   |nil=>rfl
   |cons a l ih=>simp only[List.map_cons,List.sum_cons];omega
  exact this _ _ _
theorem kw_U (ok:ArOk A e) {f:Nat} (hx:A.has x):((belA A f x).map (Kw A)).sum+Kw A x≤Wt A gU:=by rw[kw_bel];have h1:=bel_sum ok (λz=>gU (A.nd z)) (f:=f+1) hx;have h2:=below_g (A:=A) (h:=x) (g:=gU);omega
theorem not_own (ok:ArOk A e) (hx:A.has x):x∉(A.nd x).kids:=λh=>by obtain⟨r,hr⟩:=ok.rank;obtain⟨h1,h2⟩:=(kin_kids ok hx).2 x h;have:=hr x hx (by rw[h2];have:=hx.1;omega);rw[h2] at this;omega
theorem U_cut (ok:ArOk A e) (hy:A.has y) (hp:(A.nd y).par≠0):Wt (A.cut y) gU+(A.nd y).data.length=Wt A gU:=by
 obtain⟨h1,h2⟩:=ok.par y hy hp;have hne:y≠(A.nd y).par:=λh=>not_own ok hy (by rw[←h] at h2;exact h2);unfold Ar.cut;simp only
 rw[if_neg hp];have e1:∀w,Wt (A.set (A.nd y).par {A.nd (A.nd y).par with kids:=w}) gU=Wt A gU:=λw=>Wt.same rfl;have e2:∀w,(A.set (A.nd y).par {A.nd (A.nd y).par with kids:=w}).nd y=A.nd y:=λw=>by rw[nd_set,if_neg (λh=>hne h.1)]
 have e3:=λw=>Wt.set (A:=A.set (A.nd y).par {A.nd (A.nd y).par with kids:=w}) (x:={A.nd y with par:=0}) (g:=gU) (has_set.2 hy);simp only[e1,e2] at e3;have e4:gU (A.nd y)=(A.nd y).data.length:=by unfold gU;rw[if_neg hp]
 have e5:gU {A.nd y with par:=0}=0:=rfl;rw[e4,e5] at e3;simp only[e2];rw[e3];rfl
theorem sum_filter {u:Int→Nat}:∀{l:List Int},l.Nodup→y∈l→((l.filter λm=>decide (m≠y)).map u).sum+u y=(l.map u).sum
 |[],_,h=>by cases h
 |b::l,hn,h=>by
  obtain⟨n1,n2⟩:=List.nodup_cons.1 hn;by_cases hb:b=y
  ·subst hb;have:(l.filter λm=>decide (m≠b))=l:=List.filter_eq_self.2 λm hm=>by have:m≠b:=λh=>n1 (h▸hm);simp[this]
   rw[List.filter_cons_of_neg (by simp),this,List.map_cons,List.sum_cons];omega
  ·have:=sum_filter (u:=u) n2 ((List.mem_cons.1 h).resolve_left (Ne.symm hb));rw[List.filter_cons_of_pos (by simp[hb]),List.map_cons,List.sum_cons,List.map_cons,List.sum_cons];omega
theorem sum_one {u v:Int→Nat}:∀{l:List Int},l.Nodup→y∈l→(∀z∈l,z≠y→v z=u z)→v y=u y+pend→(l.map v).sum=(l.map u).sum+pend
 |[],_,h,_,_=>by cases h
 |b::l,hn,h,he,hy=>by
  obtain⟨n1,n2⟩:=List.nodup_cons.1 hn;by_cases hb:b=y
  ·subst hb;have:(l.map v).sum=(l.map u).sum:=sum_eq' λz hz=>he z (List.mem_cons_of_mem _ hz) λh=>n1 (h▸hz);simp only[List.map_cons,List.sum_cons];omega
  ·have:=sum_one n2 ((List.mem_cons.1 h).resolve_left (Ne.symm hb)) (λz hz=>he z (List.mem_cons_of_mem _ hz)) hy;have h2:=he b (by simp) hb;simp only[List.map_cons,List.sum_cons];omega
theorem nodup_at {l:List Int} (hn:l.Nodup) {i j:Nat} (hi:i<l.length) (hj:j<l.length) (h:l[i]=l[j]):i=j:=by
 rcases Nat.lt_trichotomy i j with h1|h1|h1
 ·exact absurd h (List.pairwise_iff_getElem.1 hn i j hi hj h1)
 ·exact h1
 ·exact absurd h.symm (List.pairwise_iff_getElem.1 hn j i hj hi h1)
theorem not_own' (ok:ArOk A e) (hx:A.has x) {i:Nat} (hi:i<(A.nd x).kids.length):(A.nd x).kids[i]≠x:=λh=>by have hm:=List.getElem_mem hi;rw[h] at hm;exact not_own ok hx hm
def ANode.rest (x:ANode):Int×Bytes×List Attr×Bytes×Bytes:=(x.kind,x.name,x.attrs,x.pub,x.sys)
structure Jo (A A1:Ar) (x:Int) (k:Nat) (f:Int) (pend:Nat):Prop where
 ok:ArOk A1 0
 len:A1.len=A.len
 inr:∀d,A1.inr d=A.inr d
 sm:∀z,(A1.nd z).rest=(A.nd z).rest
 oth:∀z,z≠x→(A1.nd z).kids=(A.nd z).kids
 udt:∀z,z∉(A.nd x).kids→gU (A1.nd z)=gU (A.nd z)
 nxt:∀j (hj:j<(A.nd x).kids.length),k≤j→A1.nd (A.nd x).kids[j]=A.nd (A.nd x).kids[j]
 S:Wt A1 gS+pend≤Wt A gS+(((A.nd x).kids.take k).map λz=>gU (A.nd z)).sum
 U:Wt A1 gU+pend=Wt A gU
 kx:Kw A1 x+pend=Kw A x
 f0:f≠0→A1.has f∧(A1.nd f).kind=5∧(A1.nd f).par=x∧∃i,∃hi:i<(A.nd x).kids.length,i<k∧(A.nd x).kids[i]=f
 p0:f=0→pend=0
theorem Jo.zero (ok:ArOk A 0):Jo A A x 0 0 0:=⟨ok,rfl,λ_=>rfl,λ_=>rfl,λ_ _=>rfl,λ_ _=>rfl,λ_ _ _=>rfl,by simp,by simp,by simp,λh=>absurd rfl h,λ_=>rfl⟩
theorem Jo.has (j:Jo A A1 x k f pend) (hz:A.has z):A1.has z:=has_le (by rw[j.len];exact Int.le_refl _) hz
theorem take_sum {u:Int→Nat} {l:List Int} (hk:k<l.length):((l.take (k+1)).map u).sum=((l.take k).map u).sum+u l[k]:=by rw[List.take_succ_eq_append_getElem hk,List.map_append,List.sum_append];simp
theorem Jo.at (j:Jo A A1 x k f pend) (ok:ArOk A 0) (hx:A.has x) (hk:k<(A.nd x).kids.length):A1.has (A.nd x).kids[k]∧A1.nd (A.nd x).kids[k]=A.nd (A.nd x).kids[k]∧(A.nd (A.nd x).kids[k]).par=x∧(A.nd x).kids[k]≠x:=by obtain⟨h1,h2⟩:=ok.kid x hx _ (List.getElem_mem hk);exact⟨j.has h1,j.nxt k hk (Nat.le_refl _),h2,not_own' ok hx hk⟩
theorem Jo.keep (j:Jo A A1 x k f pend) (hk:k<(A.nd x).kids.length):Jo A A1 x (k+1) f pend:=
 ⟨j.ok,j.len,j.inr,j.sm,j.oth,j.udt,λi hi h=>j.nxt i hi (by omega),by have:=j.S;rw[take_sum hk];omega,j.U,j.kx,λh=>by obtain⟨h1,h2,h3,i,hi,h4,h5⟩:=j.f0 h;exact⟨h1,h2,h3,i,hi,by omega,h5⟩,j.p0⟩
theorem Jo.start (j:Jo A A1 x k 0 pend) (ok:ArOk A 0) (hx:A.has x) (hk:k<(A.nd x).kids.length) (k5:(A.nd (A.nd x).kids[k]).kind=5):Jo A A1 x (k+1) (A.nd x).kids[k] 0:=by obtain rfl:=j.p0 rfl;have j':=j.keep hk;obtain⟨h1,h2,h3,_⟩:=j.at ok hx hk;exact⟨j'.ok,j'.len,j'.inr,j'.sm,j'.oth,j'.udt,j'.nxt,j'.S,j'.U,j'.kx,λ_=>⟨h1,by rw[h2];exact k5,by rw[h2];exact h3,k,hk,Nat.lt_succ_self _,rfl⟩,λ_=>rfl⟩
theorem Jo.cut (j:Jo A A1 x k f pend) (ok:ArOk A 0) (hx:A.has x) (hk:k<(A.nd x).kids.length) (h5:(A.nd (A.nd x).kids[k]).kind=5) (hf:f≠0∨(A.nd (A.nd x).kids[k]).data.length=0):
  Jo A (A1.cut (A.nd x).kids[k]) x (k+1) f (pend+(A.nd (A.nd x).kids[k]).data.length):=by
 obtain⟨h1,h2,h3,h4⟩:=j.at ok hx hk;have hx0:x≠0:=by have:=hx.1;omega
 obtain⟨y,hy⟩:∃y,(A.nd x).kids[k]=y:=⟨_,rfl⟩;have nod:=(ok.nok x hx).nod;have hym:y∈(A.nd x).kids:=hy▸List.getElem_mem hk;have nk:∀i (hi:i<(A.nd x).kids.length),i≠k→(A.nd x).kids[i]≠y:=λi hi hne h=>hne (nodup_at nod hi hk (h.trans hy.symm));have jn:=j.nxt;have jS:=j.S;have ts:=take_sum (u:=λz=>gU (A.nd z)) hk;simp only[hy] at h1 h2 h3 h4 h5 hf ts⊢;have hp:(A1.nd y).par=x:=by rw[h2];exact h3
 have hN:∀z,(A1.cut y).nd z=if z=y then{A1.nd y with par:=0} else if z=x then{A1.nd z with kids:=(A1.nd z).kids.filter λm=>decide (m≠y)} else A1.nd z:=λz=>by rw[nd_cut j.ok h1,hp];simp[hx0]
 have hk2:(A1.nd y).kind≠2:=by rw[h2,h5];decide
 have eU:=U_cut j.ok h1 (by rw[hp];exact hx0);rw[h2] at eU;have gy:gU (A.nd y)=(A.nd y).data.length:=by unfold gU;rw[if_neg (by rw[h3];exact hx0)]
 have hyx:y∈(A1.nd x).kids:=by
  have:=(j.ok.par y h1 (by rw[hp];exact hx0)).2
  rwa [hp] at this
 have gz:∀z,z≠y→gU ((A1.cut y).nd z)=gU (A1.nd z):=λz hz=>by
  rw[hN,if_neg hz];split
  ·rfl
  ·rfl
 refine⟨ok_cut j.ok h1 hk2,?_,λd=>inr_cut.trans (j.inr d),λz=>?_,λz hz=>?_,λz hz=>?_,λi hi hki=>?_,?_,?_,?_,λhf0=>?_,λhf0=>?_⟩
 ·rw[←j.len];unfold Ar.len;rw[nlen_cut]
 ·rw[←j.sm z,hN];split
  ·rename_i e;rw[e];rfl
  ·split
   ·rfl
   ·rfl
 ·rw[←j.oth z hz,hN];split
  ·rename_i e;rw[e]
  ·first|rfl|rw[if_neg hz]
 ·have hzy:z≠y:=λh=>hz (h▸hym);rw[gz z hzy];exact j.udt z hz
 ·have hne:=nk i hi (by omega);have hnx:(A.nd x).kids[i]≠x:=not_own' ok hx hi;rw[hN,if_neg hne,if_neg hnx];exact jn i hi (by omega)
 ·rw[S_cut,ts,gy];omega
 ·have:=j.U;omega
 ·have h7:=j.kx;have h8:=sum_filter (u:=λz=>gU (A1.nd z)) (j.ok.nok x (j.has hx)).nod hyx;have h9:gU (A1.nd y)=(A.nd y).data.length:=by rw[h2,gy]
  have h10:Kw (A1.cut y) x=(((A1.nd x).kids.filter λm=>decide (m≠y)).map λz=>gU (A1.nd z)).sum:=by unfold Kw;rw[hN x,if_neg (Ne.symm h4),if_pos rfl];exact sum_eq' λz hz=>gz z (by simpa using(List.mem_filter.1 hz).2)
  unfold Kw at h7 h10⊢;simp only[h9] at h8;omega
 ·obtain⟨f1,f2,f3,i,hi,f4,f5⟩:=j.f0 hf0;have hfy:f≠y:=by rw[←f5];exact nk i hi (by omega)
  refine⟨has_cut.2 f1,?_,?_,i,hi,by omega,f5⟩
  ·rw[hN,if_neg hfy];split
   ·exact f2
   ·exact f2
  ·rw[hN,if_neg hfy];split
   ·exact f3
   ·exact f3
 ·have:=j.p0 hf0;have:=hf.resolve_left (λh=>h hf0);omega
theorem Jo.flush (j:Jo A A1 x k f pend) (ok:ArOk A 0) (hx:A.has x) (hf:f≠0) (hD:D.length=(A1.nd f).data.length+pend):Jo A (A1.setData f D) x k 0 0:=by
 obtain⟨f1,f2,f3,i,hi,f4,f5⟩:=j.f0 hf;have hx0:x≠0:=by have:=hx.1;omega
 have nod:=(ok.nok x hx).nod;have hN:∀z,(A1.setData f D).nd z=if z=f then{A1.nd f with data:=D} else A1.nd z:=λz=>by unfold Ar.setData;rw[nd_set];simp[f1]
 have gf:gU {A1.nd f with data:=D}=D.length:=by unfold gU;exact if_neg (by rw[f3];exact hx0)
 have gf0:gU (A1.nd f)=(A1.nd f).data.length:=by unfold gU;rw[if_neg (by rw[f3];exact hx0)]
 have wS:=Wt.set (x:={A1.nd f with data:=D}) (g:=gS) f1;have wU:=Wt.set (x:={A1.nd f with data:=D}) (g:=gU) f1;rw[gf,gf0] at wU;have e1:gS {A1.nd f with data:=D}=D.length:=rfl;have e2:gS (A1.nd f)=(A1.nd f).data.length:=rfl;rw[e1,e2] at wS;have hfx:f∈(A1.nd x).kids:=by
  have:=(j.ok.par f f1 (by rw[f3];exact hx0)).2
  rwa [f3] at this
 have hfk:f∈(A.nd x).kids:=f5▸List.getElem_mem hi;refine⟨ok_setData j.ok f1 (.inl f2),?_,λd=>inr_set.trans (j.inr d),λz=>?_,λz hz=>?_,λz hz=>?_,λi2 hi2 hki=>?_,?_,?_,?_,λh=>absurd rfl h,λ_=>rfl⟩
 ·rw[←j.len];unfold Ar.setData;exact len_set
 ·rw[←j.sm z,hN];split
  ·rename_i e;rw[e];rfl
  ·rfl
 ·rw[←j.oth z hz,hN];split
  ·rename_i e;rw[e]
  ·rfl
 ·have hzf:z≠f:=λh=>hz (h▸hfk);rw[hN,if_neg hzf];exact j.udt z hz
 ·have hne:(A.nd x).kids[i2]≠f:=λh=>by have:=nodup_at nod hi2 hi (h.trans f5.symm);omega
  rw[hN,if_neg hne];exact j.nxt i2 hi2 hki
 ·have:=j.S;unfold Ar.setData;omega
 ·have:=j.U;unfold Ar.setData;omega
 ·have h7:=j.kx;have h8:=sum_one (pend:=pend) (u:=λz=>gU (A1.nd z)) (v:=λz=>gU ((A1.setData f D).nd z)) (j.ok.nok x (j.has hx)).nod hfx (λz _ hz=>by rw[hN,if_neg hz]) (by rw[hN,if_pos rfl,gf,gf0,hD]);have h9:((A1.setData f D).nd x).kids=(A1.nd x).kids:=by
   rw[hN];split
   ·rename_i e;rw[e]
   ·rfl
  unfold Kw at h7⊢;rw[h9];omega
structure Jn (A A1:Ar) (x:Int):Prop where
 ok:ArOk A1 0
 len:A1.len=A.len
 inr:∀d,A1.inr d=A.inr d
 sm:∀z,(A1.nd z).rest=(A.nd z).rest
 kw:∀z,A.has z→Kw A1 z=Kw A z
 S:Wt A1 gS≤Wt A gS+Kw A x
 U:Wt A1 gU=Wt A gU
theorem Jo.all (j:Jo A A1 x (A.nd x).kids.length 0 0) (ok:ArOk A 0) (hx:A.has x):Jn A A1 x:=by
 refine⟨j.ok,j.len,j.inr,j.sm,λz hz=>?_,?_,by have:=j.U;omega⟩
 ·by_cases hzx:z=x
  ·subst hzx;have:=j.kx;omega
  ·unfold Kw;rw[j.oth z hzx];exact sum_eq' λk hk=>j.udt k λhm=>hzx ((ok.kid z hz k hk).2.symm.trans (ok.kid x hx k hm).2)
 ·have:=j.S;rw[List.take_length] at this;unfold Kw;omega
theorem Jn.bnd (j:Jn A A1 x) (o:Bnd A k):Bnd A1 k:=λz=>by have:=j.sm z;simp only[ANode.rest,Prod.mk.injEq] at this;obtain⟨_,h1,h2,h4,h5⟩:=this;unfold okN;rw[h1,h2,h4,h5];exact o z
end
end Go.Am
end
section
namespace Go.Am
open Go
set_option maxRecDepth 100000
structure Bx (h0:AHeap) (F0:Nat→Prop) (a:Nat) (A1:Ar) (b1 b2:Nat) (h:AHeap) (f:Int) (D:Bytes):Prop where
 pw:∃F,PW 0 h F a A1∧Ext h0 F0 h F∧¬F b1∧¬F b2
 c1:h[b1]?=some (.cells [.int .i64 f])
 c2:h[b2]?=some (.cells [.str D])
 ge1:h0.length≤b1
 ge2:h0.length≤b2
 ne:b1≠b2
section
variable {h h' h0 h1 h2 t:AHeap} {a n b1 b2 k pend:Nat} {m:Option Nat} {ps:List PN} {A A' A1 A2:Ar} {x p c d f f':Int} {e:Int} {v V:AVal} {F F' F0:Nat→Prop} {s D D':Bytes}
theorem Bx.app (i:Bx h0 F0 a A1 b1 b2 h f D):Bx h0 F0 a A1 b1 b2 (h++t) f D:=by obtain⟨⟨F,w,x,q1,q2⟩,c1,c2,g1,g2,ne⟩:=i;have l1:=(List.getElem?_eq_some_iff.1 c1).1;have l2:=(List.getElem?_eq_some_iff.1 c2).1;exact⟨⟨F,w.app,x.trans .app,q1,q2⟩,by rw[List.getElem?_append_left l1];exact c1,by rw[List.getElem?_append_left l2];exact c2,g1,g2,ne⟩
theorem Bx.step (i:Bx h0 F0 a A1 b1 b2 h f D):∃F,PW 0 h F a A1∧∀{h':AHeap} {F':Nat→Prop} {A2:Ar},PW 0 h' F' a A2→Ext h F h' F'→Bx h0 F0 a A2 b1 b2 h' f D:=by obtain⟨⟨F,w,x,q1,q2⟩,c1,c2,g1,g2,ne⟩:=i;have l1:=(List.getElem?_eq_some_iff.1 c1).1;have l2:=(List.getElem?_eq_some_iff.1 c2).1;exact⟨F,w,λw' x'=>⟨⟨_,w',x.trans x',λhm=>(x'.own _ hm).elim q1 (by omega),λhm=>(x'.own _ hm).elim q2 (by omega)⟩,by rw[x'.old _ l1 q1];exact c1,by rw[x'.old _ l2 q2];exact c2,g1,g2,ne⟩⟩
theorem PW.set {b:Nat} {o:AObj} (w:PW 0 h F a A) (hb:¬F b):PW 0 (h.set b o) F a A:=by obtain⟨n,m,ps,w,e⟩:=w;exact⟨n,m,ps,w.frame λi hi=>List.getElem?_set_ne λh=>hb (by rw[h];exact(e i).2 hi),e⟩
theorem Bx.set1 (i:Bx h0 F0 a A1 b1 b2 h f D):hstore h 1 (.ptr (some (b1,0))) (.int .i64 f')=some (h.set b1 (.cells [.int .i64 f']))∧Bx h0 F0 a A1 b1 b2 (h.set b1 (.cells [.int .i64 f'])) f' D:=by obtain⟨⟨F,w,x,q1,q2⟩,c1,c2,g1,g2,ne⟩:=i;have l1:=(List.getElem?_eq_some_iff.1 c1).1;refine⟨by simp only[hstore,c1];rfl,⟨F,w.set q1,⟨by rw[List.length_set];exact x.len,λi hi hn=>?_,x.own⟩,q1,q2⟩,List.getElem?_set_self l1,by rw[List.getElem?_set_ne ne];exact c2,g1,g2,ne⟩;rw[List.getElem?_set_ne (by omega)];exact x.old i hi hn
theorem Bx.set2 (i:Bx h0 F0 a A1 b1 b2 h f D):hstore h 1 (.ptr (some (b2,0))) (.str D')=some (h.set b2 (.cells [.str D']))∧Bx h0 F0 a A1 b1 b2 (h.set b2 (.cells [.str D'])) f D':=by obtain⟨⟨F,w,x,q1,q2⟩,c1,c2,g1,g2,ne⟩:=i;have l2:=(List.getElem?_eq_some_iff.1 c2).1;refine⟨by simp only[hstore,c2];rfl,⟨F,w.set q2,⟨by rw[List.length_set];exact x.len,λi hi hn=>?_,x.own⟩,q1,q2⟩,by rw[List.getElem?_set_ne ne.symm];exact c1,List.getElem?_set_self l2,g1,g2,ne⟩;rw[List.getElem?_set_ne (by omega)];exact x.old i hi hn
theorem Bx.l1 (i:Bx h0 F0 a A1 b1 b2 h f D):hload h none (.ptr (some (b1,0)))=some (.int .i64 f):=hload1 i.c1
theorem Bx.l2 (i:Bx h0 F0 a A1 b1 b2 h f D):hload h none (.ptr (some (b2,0)))=some (.str D):=hload1 i.c2
structure Rom (A:Ar):Prop where
 n:A.n.length≤900000000
 S:Wt A gS+Wt A gU≤19000000000000
 bn:Bnd A 1000
theorem take_le {u:Int→Nat} {l:List Int}:((l.take k).map u).sum≤(l.map u).sum:=by
 have:(l.map u).sum=((l.take k).map u).sum+((l.drop k).map u).sum:=by rw[←List.sum_append,←List.map_append,List.take_append_drop]
 omega
theorem kw_le (ok:ArOk A e) (hx:A.has x):Kw A x≤Wt A gU:=by have:=kw_U ok (f:=0) hx;omega
theorem lim_of (hn:A1.len=A.len) (ro:Rom A) (sm:∀z,(A1.nd z).rest=(A.nd z).rest) (hS:Wt A1 gS≤19000000000000):Lim A1:=by
 refine⟨by have:=ro.n;unfold Ar.len at hn;omega,λz=>?_,λz=>?_⟩
 ·have:=sm z;simp only[ANode.rest,Prod.mk.injEq] at this;rw[this.2.2.1];have:=(ro.bn z).1;omega
 ·by_cases hz:A1.has z
  ·have:=le_S hz;omega
  ·rw[nd_no hz];exact Nat.zero_le _
theorem Jo.lim (j:Jo A A1 x k f pend) (ok:ArOk A 0) (hx:A.has x) (ro:Rom A):Lim A1:=by refine lim_of j.len ro j.sm ?_;have h1:=j.S;have h2:=take_le (u:=λz=>gU (A.nd z)) (l:=(A.nd x).kids) (k:=k);have h3:=kw_le ok hx;have h4:=ro.S;unfold Kw at h3;omega
theorem psadd {a b:Bytes} (h:a.length+b.length≤9223372036854775807):peval (.str .add) [.str a,.str b]=some (.str (a++b)):=by simp[peval,strOp,h]
theorem E565 (i:Bx h0 F0 a A1 b1 b2 h f D) (j:Jo A A1 x k f pend) (ok:ArOk A 0) (hx:A.has x) (ro:Rom A) (hD:f≠0→D.length=(A1.nd f).data.length+pend):
  ∃h2 A2,Ret cx 137 [.ptr (some (b1,0)),.rptr [.ptr (some (a,0))],.ptr (some (b2,0))] h (.tuple []) h2∧Bx h0 F0 a A2 b1 b2 h2 0 []∧Jo A A2 x k 0 0:=by
 have lp:∀h (v:AVal),hload h none (.rptr [v])=some v:=λh v=>rfl;by_cases f0:f=0
 ·subst f0;obtain⟨s1,i1⟩:=i.set1 (f':=0);obtain⟨s2,i2⟩:=i1.set2 (D':=[]);have:=j.p0 rfl;subst this;refine⟨_,A1,?_,i2,j⟩;rw[ret_iff,t137_eq,t137];simp only[amS,Nat.reduceLeDiff,↓reduceIte,bxS,i.l1,ne_eq,eq_self,s1,s2]
 ·obtain⟨f1,f2,_⟩:=j.f0 f0;obtain⟨h3,r3,i3⟩:∃h3,Ret cx 52 [.ptr (some (a,0)),.int .i64 f,.str D] h (.int .i64 0) h3∧Bx h0 F0 a (A1.setData f D) b1 b2 h3 f D:=by obtain⟨F,w,st⟩:=i.step;obtain⟨n,m,ps,w',rfl⟩:=w.pa_;obtain⟨h3,ps3,r3,w3,x3⟩:=f36w (s:=D) w' (j.lim ok hx ro) f1 f2;exact⟨h3,r3,st w3.pw_ x3⟩
  obtain⟨s1,i1⟩:=i3.set1 (f':=0);obtain⟨s2,i2⟩:=i1.set2 (D':=[]);refine⟨_,_,?_,i2,j.flush ok hx f0 (hD f0)⟩;rw[ret_iff,t137_eq,t137];simp only[amS,Nat.reduceLeDiff,↓reduceIte,bxS,i.l1,i.l2,lp,ne_eq,f0,r3,s1,s2]
theorem E563 (w:PW 0 h F a A) (ok:ArOk A 0) (hx:A.has x) (ro:Rom A):Eff 0 110 [.ptr (some (a,0)),.int .i64 x] h F a λr A'=>r= .tuple []∧Jn A A' x:=by
 have lm:Lim A:=(Jo.zero ok).lim ok hx ro;have hkb:=lm.kids ok;obtain⟨b1,e1⟩:∃b,h.length=b:=⟨_,rfl⟩;have lp:∀h (v:AVal),hload h none (.rptr [v])=some v:=λh v=>rfl;have i0:Bx h F a A b1 (b1+1) (h++[.cells [.int .i64 0]]++[.cells [.str []]]) 0 []:=by subst e1;refine⟨⟨F,by rw[List.append_assoc];exact w.app,by rw[List.append_assoc];exact .app,λhm=>Nat.lt_irrefl _ (w.lt hm),λhm=>by have:=w.lt hm;omega⟩,by simp,by simp,Nat.le_refl _,Nat.le_succ _,by omega⟩
 have al:(h++[AObj.cells [AVal.int .i64 0]]).length=b1+1:=by simp[e1]
 obtain⟨s1,i1⟩:=i0.set1 (f':=0);obtain⟨s2,i2⟩:=i1.set2 (D':=[]);obtain⟨H,eH⟩:∃H,((h++[AObj.cells [.int .i64 0]]++[AObj.cells [.str []]]).set b1 (AObj.cells [.int .i64 0])).set (b1+1) (AObj.cells [.str []])=H:=⟨_,rfl⟩;rw[eH] at s2 i2;obtain⟨v,r3,hv⟩:∃v,Ret cx 73 [.ptr (some (a,0)),.int .i64 x] H v H∧IsInts (A.nd x).kids v:=by obtain⟨F2,w2,_⟩:=i2.pw;obtain⟨n,m,ps,w',rfl⟩:=w2.pa_;exact f110w (x:=x) w' lm (hkb x)
 have lk:=IsSl.lenM hv;have hev:Ev cx 110 [.ptr (some (a,0)),.int .i64 x] h λr h'=>r= .tuple []∧∃A2,Bx h F a A2 b1 (b1+1) h' 0 []∧Jo A A2 x (A.nd x).kids.length 0 0:=by
  unfold Ev;rw[t110_eq,t110];simp only[amS,Nat.reduceLeDiff,↓reduceIte,fillAt,bxS,e1,al,s1,s2,lp,r3,lk];refine W_loop_st (λk:Nat=>[.int .i64 (k:Int)]) (λk h1=>k≤(A.nd x).kids.length∧∃A1 f D pend,Bx h F a A1 b1 (b1+1) h1 f D∧Jo A A1 x k f pend∧(f≠0→D.length=(A1.nd f).data.length+pend)∧(f=0→D=[])) (λk=>(A.nd x).kids.length-k) 0 rfl
   ⟨Nat.zero_le _,A,0,[],0,i2,.zero ok,λh=>absurd rfl h,λ_=>rfl⟩ ?_
  rintro k h1 ⟨hk,A1,f,D,pend,i,j,hD,hD0⟩;rcases Nat.lt_or_ge k (A.nd x).kids.length with hlt|hge
  ·have i1:(k:Int)<((A.nd x).kids.length:Int):=by omega
   have:=hkb x;obtain⟨p',q1,q2⟩:=(IsInts.ints (h:=h1) hv).at_ k hlt;obtain⟨hy,hyn,hyp,_⟩:=j.at ok hx hlt;have lm1:=j.lim ok hx ro;obtain⟨rr,t,r5,K,V,rfl,hrow⟩:∃rr t,Ret cx 7 [.ptr (some (a,0)),.int .i64 (A.nd x).kids[k]] h1 (.tuple [.agg rr,.int .i64 0]) (h1++t)∧NRow (h1++t) h1.length (A1.nd (A.nd x).kids[k]) rr:=by obtain⟨F2,w2,_⟩:=i.pw;obtain⟨n,m,ps,w',rfl⟩:=w2.pa_;obtain⟨rr,t,r5,hrow⟩:=f97w (x:=(A.nd x).kids[k]) w' lm1 (lm1.kids j.ok _);rw[if_pos hy] at r5;exact⟨rr,t,r5,hrow⟩
   rw[hyn] at r5;have ia:=i.app (t:=t);have ad:peval (.str .add) [.str D,.str (A.nd (A.nd x).kids[k]).data]=some (.str (D++(A.nd (A.nd x).kids[k]).data)):=psadd (by
    have h2:=lm1.data (A.nd x).kids[k];rw[hyn] at h2;by_cases f0:f=0
    ·rw[hD0 f0];simp only[List.length_nil];omega
    ·have h3:=lm1.data f;have h4:=hD f0;have h5:=j.U;have h6:=ro.S;omega)
   by_cases k5:(A.nd (A.nd x).kids[k]).kind=5
   ·have cutc:f≠0∨(A.nd (A.nd x).kids[k]).data.length=0→∃(h3:AHeap) (A2:Ar) (hs:hstore (h1++t) 1 (.ptr (some (b1+1,0))) (.str (D++(A.nd (A.nd x).kids[k]).data))=some ((h1++t).set (b1+1) (.cells [.str (D++(A.nd (A.nd x).kids[k]).data)]))) (e:Int),
      Ret cx 97 [.ptr (some (a,0)),.int .i64 (A.nd x).kids[k]] ((h1++t).set (b1+1) (.cells [.str (D++(A.nd (A.nd x).kids[k]).data)])) (.int .i64 e) h3∧Bx h F a A2 b1 (b1+1) h3 f (D++(A.nd (A.nd x).kids[k]).data)∧Jo A A2 x (k+1) f (pend+(A.nd (A.nd x).kids[k]).data.length)∧(f≠0→A2.nd f={A1.nd f with kids:=(A2.nd f).kids}):=λhf=>by
     obtain⟨s4,i4⟩:=ia.set2 (D':=D++(A.nd (A.nd x).kids[k]).data);obtain⟨F4,w4,st⟩:=i4.step;obtain⟨_,A2,h3,F3,r6,w6,x6,⟨e,rfl⟩,p6⟩:=E542 (x:=(A.nd x).kids[k]) w4 lm1 j.ok (cut_hard j.ok);obtain rfl:A2=A1.cut (A.nd x).kids[k]:=by
      rcases p6 with⟨_,e⟩|⟨h,_⟩
      ·exact e
      ·exact absurd hy h
     refine⟨h3,_,s4,e,r6,st w6 x6,j.cut ok hx hlt k5 hf,λf0=>?_⟩;obtain⟨_,_,_,i',hi',f4,f5⟩:=j.f0 f0;have hne:f≠(A.nd x).kids[k]:=λh=>by have:=nodup_at (ok.nok x hx).nod hi' hlt (f5.trans h);omega
     rw[nd_cut j.ok hy,if_neg hne];split
     ·rfl
     ·rfl
    by_cases f0:f=0
    ·subst f0;obtain rfl:=hD0 rfl;have:=j.p0 rfl;subst this;by_cases d0:(A.nd (A.nd x).kids[k]).data=[]
     ·obtain⟨h3,A2,s4,e,r6,i6,j6,_⟩:=cutc (.inr (by rw[d0];rfl));rw[d0] at s4 r6 i6 j6 ad;simp only[List.append_nil,List.length_nil,Nat.add_zero] at s4 r6 i6 j6 ad;simp only[amS,Nat.reduceLeDiff,↓reduceIte,bxS,i1,q1,q2,lp,r5,k5,ne_eq,eq_self,ia.l1,d0,ia.l2,ad,s4,r6,pe_incN k];exact LoopPost.next (k+1) rfl ⟨hlt,A2,0,_,_,i6,j6,λh=>absurd rfl h,λ_=>rfl⟩ (by omega)
     ·obtain⟨s3,i3⟩:=ia.set1 (f':=(A.nd x).kids[k]);obtain⟨s4,i4⟩:=i3.set2 (D':=(A.nd (A.nd x).kids[k]).data);have jj:=j.start ok hx hlt k5;simp only[amS,Nat.reduceLeDiff,↓reduceIte,bxS,i1,q1,q2,lp,r5,k5,ne_eq,eq_self,ia.l1,d0,s3,s4,pe_incN k];exact LoopPost.next (k+1) rfl ⟨hlt,A1,_,_,_,i4,jj,λ_=>by rw[hyn];rfl,λh=>by have:=hy.1;omega⟩ (by omega)
    ·obtain⟨h3,A2,s4,e,r6,i6,j6,nf⟩:=cutc (.inl f0);simp only[amS,Nat.reduceLeDiff,↓reduceIte,bxS,i1,q1,q2,lp,r5,k5,ne_eq,eq_self,ia.l1,f0,ia.l2,ad,s4,r6,pe_incN k];exact LoopPost.next (k+1) rfl ⟨hlt,A2,f,_,_,i6,j6,λ_=>by have:=hD f0;rw[List.length_append,nf f0];show _=(A1.nd f).data.length+_;omega,λh=>absurd h f0⟩ (by omega)
   ·obtain⟨h3,A2,r6,i6,j6⟩:=E565 ia j ok hx ro hD;simp only[amS,Nat.reduceLeDiff,↓reduceIte,bxS,i1,q1,q2,lp,r5,k5,ne_eq,targetOf,List.append_nil,r6,pe_incN k];exact LoopPost.next (k+1) rfl ⟨hlt,A2,0,[],0,i6,j6.keep hlt,λh=>absurd rfl h,λ_=>rfl⟩ (by omega)
  ·have i1:¬(k:Int)<((A.nd x).kids.length:Int):=by omega
   obtain rfl:k=(A.nd x).kids.length:=by omega
   obtain⟨h3,A2,r6,i6,j6⟩:=E565 i j ok hx ro hD;simp only[amS,Nat.reduceLeDiff,↓reduceIte,bxS,i1,targetOf,List.append_nil,r6];exact⟨_,rfl,rfl,A2,i6,j6⟩
 obtain⟨r,h',hr,rfl,A2,i,j⟩:=hev.ret;obtain⟨F2,w2,x2,_⟩:=i.pw;exact⟨_,A2,h',F2,hr,w2,x2,rfl,j.all ok hx⟩
end
end Go.Am
end
section
namespace Go.Am
open Go
set_option maxRecDepth 100000
structure Jns (A A1:Ar) (s:Nat):Prop where
 ok:ArOk A1 0
 len:A1.len=A.len
 inr:∀d,A1.inr d=A.inr d
 sm:∀z,(A1.nd z).rest=(A.nd z).rest
 kw:∀z,A.has z→Kw A1 z=Kw A z
 S:Wt A1 gS≤Wt A gS+s
 U:Wt A1 gU=Wt A gU
section
variable {h h':AHeap} {a n k s:Nat} {m:Option Nat} {ps:List PN} {A A' A1 A2:Ar} {x:Int} {e:Int} {F:Nat→Prop} {r:Int→Nat}
theorem Jns.refl (ok:ArOk A 0):Jns A A 0:=⟨ok,rfl,λ_=>rfl,λ_=>rfl,λ_ _=>rfl,Nat.le_refl _,rfl⟩
theorem Jns.has {z:Int} (g:Jns A A1 s) (hz:A.has z):A1.has z:=has_le (by rw[g.len];exact Int.le_refl _) hz
theorem Jns.next (g:Jns A A1 s) (j:Jn A1 A2 x) (hx:A.has x):Jns A A2 (s+Kw A x):=
 ⟨j.ok,j.len.trans g.len,λd=>(j.inr d).trans (g.inr d),λz=>(j.sm z).trans (g.sm z),λz hz=>(j.kw z (g.has hz)).trans (g.kw z hz),by have:=j.S;have:=g.S;have:=g.kw x hx;omega,j.U.trans g.U⟩
theorem Jns.bnd {k:Nat} (j:Jns A A1 s) (o:Bnd A k):Bnd A1 k:=λz=>by have:=j.sm z;simp only[ANode.rest,Prod.mk.injEq] at this;obtain⟨_,h1,h2,h4,h5⟩:=this;unfold okN;rw[h1,h2,h4,h5];exact o z
theorem Jns.rom (j:Jns A A1 s) (hn:A.n.length≤900000000) (hb:Bnd A 1000) (hS:Wt A gS+s+Wt A gU≤19000000000000):Rom A1:=by refine⟨by have:=j.len;unfold Ar.len at this;omega,by have:=j.S;have:=j.U;omega,j.bnd hb⟩
theorem preL_w {f:Int→Option (List Int)} {g:Int→List Int}:∀{ks:List Int},(∀y∈ks,f y=some (g y))→preL f ks=some (ks.flatMap λy=>y::g y)
 |[],_=>rfl
 |y::ks,h=>by unfold preL;rw[h y (by simp),preL_w λz hz=>h z (List.mem_cons_of_mem _ hz)];rfl
theorem preOf_w (hr:∀h,A.has h→A.up h≠0→r (A.up h)<r h) (w:PA 0 h a n m ps A) (ok:ArOk A e) (hkb:∀y,(A.nd y).kids.length≤1000000000):∀{f:Nat} {x:Int},A.has x→lowR A r x<f→preOf h a f x=some (belA A f x)
 |0,x,_,h=>by omega
 |f+1,x,hx,hl=>by unfold preOf belA;rw[kidsOf_w w hx (by have:=hx.1;omega) (hkb x),Option.bind_some];refine preL_w λy hy=>?_;obtain⟨h1,h2⟩:=(kin_kids ok hx).2 y hy;have h3:=hr y h1 (by rw[h2];have:=hx.1;omega);rw[h2] at h3;exact preOf_w hr w ok hkb h1 (by have:=lowR_lt (A:=A) (r:=r) h1 h3;omega)
theorem gPre_w (w:PA 0 h a n m ps A) (ok:ArOk A e) (lm:Lim A) (hkb:∀y,(A.nd y).kids.length≤1000000000) (hx:A.has x):
  gPre h [.ptr (some (a,0)),.int .i64 x]=some (h,.sl 1 ((belA A (ps.length+1) x).map λy=>[.int .i64 y])):=by
 obtain⟨r,hr⟩:=ok.rank;have h1:=preOf_w hr w ok hkb (f:=ps.length+1) hx (by have:=lowR_le (A:=A) (r:=r) (x:=x);rw[w.nlen] at this;omega);have h2:=bel_few ok (f:=ps.length+1) hx;have h3:=lm.n;unfold gPre;simp only[w.ha,h1,show(belA A (ps.length+1) x).length≤1000000000 by omega,↓reduceIte]
theorem joins_w (hn:A.n.length≤900000000) (hb:Bnd A 1000):∀{l:List Int} {s:Nat} {h:AHeap} {F:Nat→Prop} {A1:Ar},PW 0 h F a A1→Jns A A1 s→(∀y∈l,A.has y)→Wt A gS+(s+(l.map (Kw A)).sum)+Wt A gU≤19000000000000→
  ∃h' F' A2,PW 0 h' F' a A2∧Ext h F h' F'∧Jns A A2 (s+(l.map (Kw A)).sum)∧∀(k:IT) (Q:Post),W cx k Q h'→W cx (joinsT 110 (.ptr (some (a,0))) k (l.map λy=>[.int .i64 y])) Q h
 |[],s,h,F,A1,w,j,_,_=>⟨h,F,A1,w,.refl,by simpa using j,λ_ _ hw=>hw⟩
 |y::l,s,h,F,A1,w,j,hh,hS=>by have hy:=hh y (by simp);simp only[List.map_cons,List.sum_cons] at hS;obtain⟨_,A2,h1,F1,r1,w1,x1,rfl,j1⟩:=E563 w j.ok (j.has hy) (j.rom hn hb (by omega));obtain⟨h2,F2,A3,w2,x2,j2,hk⟩:=joins_w hn hb (l:=l) w1 (j.next j1 hy) (λz hz=>hh z (List.mem_cons_of_mem _ hz)) (by omega);refine⟨h2,F2,A3,w2,x1.trans x2,by simp only[List.map_cons,List.sum_cons];rwa [←Nat.add_assoc],λk Q hw=>?_⟩;have:=hk k Q hw;simp only[List.map_cons,joinsT,amS,r1];exact this
theorem E559 (w:PW 0 h F a A) (ok:ArOk A 0) (cl:Cl A) (hn:A.n.length≤900000000) (hb:Bnd A 1000) (hS:Wt A gS+2*Wt A gU≤19000000000000):
  Eff 0 64 [.ptr (some (a,0)),.int .i64 x] h F a λr A'=>(∃e,r= .int .i64 e)∧∃s,s≤Wt A gU∧Jns A A' s:=by
 have ro:Rom A:=⟨hn,by omega,hb⟩;have lm:Lim A:=lim_of rfl ro (λ_=>rfl) (by omega);obtain⟨n,m,ps,w',rfl⟩:=w.pa_;have hkb:=lm.kids ok;have hv:IsInts [x] (.sl 1 [[.int .i64 x]]):= .inl rfl;obtain⟨t,r1⟩:=f562g w' lm hkb hv (by simp) (-1);have w1:=w'.app (t:=t);by_cases hk:okH A (-1) [x]
 ·rw[if_pos hk] at r1;have hx:=hk 0 (by simp);simp at hx;obtain⟨_,A2,h2,F2,r2,w2,x2,rfl,j2⟩:=E563 w1.pw_ ok hx ro;obtain⟨n2,m2,ps2,w2',rfl⟩:=w2.pa_;have hx2:A2.has x:=has_le (by rw[j2.len];exact Int.le_refl _) hx;have hn2:A2.n.length≤900000000:=by have:=j2.len;unfold Ar.len at this;omega
  have k1:=kw_le ok hx;have k2:=kw_U j2.ok (f:=ps2.length+1) hx2;rw[j2.U,j2.kw x hx] at k2;have lm2:Lim A2:=lim_of j2.len ro j2.sm (by have:=j2.S;omega);have hg:=gPre_w w2' j2.ok lm2 (lm2.kids j2.ok) hx2;obtain⟨h3,F3,A3,w3,x3,j3,hw⟩:=joins_w hn2 (j2.bnd hb) (l:=belA A2 (ps2.length+1) x) w2 (.refl j2.ok) (λy hy=>bel_mem j2.ok hx2 hy) (by have:=j2.S;have:=j2.U;omega);refine⟨I 0,A3,h3,F3,?_,w3,(Ext.app.trans x2).trans x3,⟨_,rfl⟩,Kw A x+((belA A2 (ps2.length+1) x).map (Kw A2)).sum,by omega,?_⟩
  ·rw[ret_iff];show W cx (pNormalize 27 110 [.ptr (some (a,0)),.int .i64 x]) _ _;unfold pNormalize;simp only[amS,Nat.reduceLeDiff,↓reduceIte,bxS,r1,ne_eq,eq_self,r2,meval,hg];exact hw _ _ (by simp only[amS])
  ·have hk':∀z,A.has z→Kw A3 z=Kw A z:=λz hz=>(j3.kw z (has_le (by rw[j2.len];exact Int.le_refl _) hz)).trans (j2.kw z hz);exact⟨j3.ok,j3.len.trans j2.len,λd=>(j3.inr d).trans (j2.inr d),λz=>(j3.sm z).trans (j2.sm z),hk',by have:=j3.S;have:=j2.S;omega,j3.U.trans j2.U⟩
 ·rw[if_neg hk] at r1;refine⟨I 3,A,_,_,?_,w1.pw_,.app,⟨_,rfl⟩,0,Nat.zero_le _,.refl ok⟩;rw[ret_iff];show W cx (pNormalize 27 110 [.ptr (some (a,0)),.int .i64 x]) _ _;unfold pNormalize;simp only[amS,bxS,r1,ne_eq,ieq]
end
end Go.Am
end
section
namespace Go.Am
open Go
set_option maxRecDepth 100000
structure Cpy (A A' B:Ar) (ds:Nat):Prop where
 cl:Cl A'
 S:Wt A' gS≤Wt A gS+ds
 sy:∀P:Bytes×List Attr×Bytes×Bytes×Bytes→Prop,(∀z,P (A.nd z).says)→(∀z,P (B.nd z).says)→∀z,P (A'.nd z).says
section
variable {A A' A1 A2 B:Ar} {x h d u t k:Int} {s s' j:Nat} {b y:ANode} {e:Int}
theorem Cpy.refl (c:Cl A):Cpy A A B 0:=⟨c,Nat.le_refl _,λ_ h _=>h⟩
theorem Cpy.trans (g:Cpy A A1 B s) (q:Cpy A1 A2 B s'):Cpy A A2 B (s+s'):=
 ⟨q.cl,by have:=g.S;have:=q.S;omega,λP h1 h2=>q.sy P (g.sy P h1 h2) h2⟩
theorem Cpy.mono (g:Cpy A A1 B s) (h:s≤s'):Cpy A A1 B s':=⟨g.cl,by have:=g.S;omega,g.sy⟩
theorem Cpy.mv (g:Mv A A' j) (c:Cl A'):Cpy A A' B 0:=⟨c,Nat.le_of_eq g.S,λP h _ z=>by rw[g.sm z];exact h z⟩
theorem says0 (A:Ar) {P:Bytes×List Attr×Bytes×Bytes×Bytes→Prop} (h:∀z,P (A.nd z).says):P ({}:ANode).says:=by
 have:=h 0
 rwa [nd_no (by unfold Ar.has;omega)] at this
theorem Cpy.add (c:Cl A) (il:A.i.length=A.n.length) (hy:y.says=(B.nd u).says∨y.says=({}:ANode).says):Cpy A (A.add y) B y.data.length:=by
 refine⟨c.add il,by rw[Wt.add];exact Nat.le_refl _,λP h1 h2 z=>?_⟩;rw[nd_add];split
 ·rcases hy with hy|hy
  ·rw[hy];exact h2 u
  ·rw[hy];exact says0 A h1
 ·exact h1 z
theorem Cpy.elem {sp:Int} {nm:Bytes} {l:List Attr} (c:Cl A) (ok:ArOk A 0) (hd:A.has d) (hy:({kind:=4,doc:=d,space:=sp,name:=nm,attrs:=once l}:ANode).says=(B.nd u).says):Cpy A (A.elem d sp nm l) B 0:=by
 refine⟨c.elem ok hd,Nat.le_of_eq S_elem,λP h1 h2=>?_⟩;have hn:P ({kind:=4,doc:=d,space:=sp,name:=nm,attrs:=once l}:ANode).says:=by rw[hy];exact h2 u
 have add:∀{A:Ar} {y:ANode},(∀z,P (A.nd z).says)→P y.says→∀z,P ((A.add y).nd z).says:=λh1 h2 z=>by rw[nd_add];split;exact h2;exact h1 z
 have h0:P ({}:ANode).says:=says0 A h1;unfold Ar.elem;simp only;split
 ·have hi:∀z,P (((A.add {kind:=4,doc:=d,space:=sp,name:=nm,attrs:=once l}).inertA d).nd z).says:=by
   have h3:=add h1 hn;unfold Ar.inertA;split
   ·exact h3
   ·intro z;rw[nd_setI,nd_setI];exact add h3 (by exact h0) z
  intro z;rw[nd_set];split
  ·exact hn
  ·exact add hi (by exact h0) z
 ·exact add h1 hn
theorem Cpy.like (c:Cl A) (ok:ArOk A 0) (hd:A.has d) (nb:NOk (B.nd u)):Cpy A (A.likeN d (B.nd u)) B (B.nd u).data.length:=by
 obtain⟨k,kids,e1,e2,e3,e4,e5,sp,asp,on,cT,hF,rt,nod⟩:=nb;unfold Ar.likeN;split
 ·exact(Cpy.add (u:=u) (y:={kind:=1,quirks:=(B.nd u).quirks,doc:=A.len+1}) c ok.il (.inr rfl)).mono (Nat.zero_le _)
 split
 ·exact(Cpy.add (u:=u) (y:={kind:=2,doc:=d}) c ok.il (.inr rfl)).mono (Nat.zero_le _)
 split
 ·rename_i h1 h2 h3;refine(Cpy.add (u:=u) c ok.il (.inl ?_)).mono (Nat.zero_le _);simp only[ANode.says,(e1 (by omega)).2,e4 (by omega) (by omega)]
 split
 ·rename_i h1 h2 h3 h5;refine(Cpy.add (u:=u) c ok.il (.inl ?_));simp only[ANode.says,(e1 (by omega)).2,e2 (by omega) (by omega),(e3 (by omega)).1,(e3 (by omega)).2]
 split
 ·rename_i h1 h2 h3 h5 h6;refine(Cpy.add (u:=u) c ok.il (.inl ?_));simp only[ANode.says,(e1 (by omega)).2,e2 (by omega) (by omega),(e3 (by omega)).1,(e3 (by omega)).2]
 ·rename_i h1 h2 h3 h5 h6;refine(Cpy.elem (u:=u) c ok hd ?_).mono (Nat.zero_le _);simp only[ANode.says,on,(e3 (by omega)).1,(e3 (by omega)).2,e4 (by omega) (by omega)]
theorem Cpy.lim (g:Cpy A A' B s) (l1:Lim A) (l2:Lim B) (hn:A'.len≤1000000000):Lim A':=by have h:=g.sy (λq=>q.2.1.length≤1000000000∧q.2.2.1.length≤20000000000000) (λz=>⟨l1.at_ z,l1.data z⟩) (λz=>⟨l2.at_ z,l2.data z⟩);exact⟨by unfold Ar.len at hn;omega,λz=>(h z).1,λz=>(h z).2⟩
theorem Cpy.bnd {k:Nat} (g:Cpy A A' B s) (l1:Bnd A k) (l2:Bnd B k):Bnd A' k:=by have h:=g.sy (λq=>q.2.1.length≤k∧(∀y∈q.2.1,y.name.length≤400∧y.value.length≤400)∧q.1.length≤400∧q.2.2.2.1.length≤400∧q.2.2.2.2.length≤400) (λz=>l1 z) (λz=>l2 z);exact λz=>h z
end
end Go.Am
end
section
namespace Go.Am
open Go
set_option maxRecDepth 100000
def Src (h:AHeap) (F:Nat→Prop) (a:Nat) (A:Ar) (b:Nat) (B:Ar):Prop:=
 (b=a∧B.len≤A.len∧∀z,B.has z→A.nd z=B.nd z)∨b≠a∧∃sfb Fb,PW sfb h Fb b B∧∀i,F i→¬Fb i
section
variable {h h' h1:AHeap} {a b n k:Nat} {m:Option Nat} {ps:List PN} {A A' A1 A2 B:Ar} {x d u t sf:Int} {e:Int} {F F' F1:Nat→Prop} {r:Int→Nat} {l:List Int}
theorem Src.next (s:Src h F a A b B) (w:PW sf h F a A) (x:Ext h F h' F') (hl:A.len≤A'.len) (g:b=a→B.len≤A.len→∀z,B.has z→A'.nd z=A.nd z):Src h' F' a A' b B:=by
 rcases s with⟨e,h1,h2⟩|⟨hne,sfb,Fb,wb,dj⟩
 ·exact .inl ⟨e,by omega,λz hz=>(g e h1 z hz).trans (h2 z hz)⟩
 ·refine .inr ⟨hne,sfb,Fb,wb.frame λi hi=>x.old i (wb.lt hi) λhF=>dj i hF hi,λi hi hb=>?_⟩;rcases x.own i hi with h1|h1
  ·exact dj i h1 hb
  ·have:=wb.lt hb;omega
theorem Src.node (s:Src h F a A b B) (w:PW sf h F a A) (lm:Lim A) (lb:Lim B) (okA:ArOk A 0) (okB:ArOk B 0) (hu:B.has u):∃q t,Ret cx 7 [.ptr (some (b,0)),.int .i64 u] h (.tuple [.agg q,I 0]) (h++t)∧NRow (h++t) h.length (B.nd u) q:=by
 rcases s with⟨rfl,h1,h2⟩|⟨hne,sfb,Fb,wb,dj⟩
 ·obtain⟨n,m,ps,w',rfl⟩:=w.pa_;obtain⟨q,t,r1,hq⟩:=f97w (x:=u) w' lm (lm.kids okA _);have hA:A.has u:=has_le h1 hu;rw[if_pos hA] at r1;rw[h2 u hu] at hq;exact⟨q,t,r1,hq⟩
 ·obtain⟨n,m,ps,w',rfl⟩:=wb.pa_;obtain⟨q,t,r1,hq⟩:=f97w (x:=u) w' lb (lb.kids okB _);rw[if_pos hu] at r1;exact⟨q,t,r1,hq⟩
theorem Src.kids (s:Src h F a A b B) (w:PW sf h F a A) (lm:Lim A) (lb:Lim B) (okA:ArOk A 0) (okB:ArOk B 0) (hu:B.has u):∃v,Ret cx 73 [.ptr (some (b,0)),.int .i64 u] h v h∧IsInts (B.nd u).kids v:=by
 rcases s with⟨rfl,h1,h2⟩|⟨hne,sfb,Fb,wb,dj⟩
 ·obtain⟨n,m,ps,w',rfl⟩:=w.pa_;obtain⟨v,r1,hv⟩:=f110w (x:=u) w' lm (lm.kids okA _);rw[h2 u hu] at hv;exact⟨v,r1,hv⟩
 ·obtain⟨n,m,ps,w',rfl⟩:=wb.pa_;exact f110w (x:=u) w' lb (lb.kids okB _)
noncomputable abbrev bN (B:Ar) (u:Int):Nat:=Below' B (λ_=>1) u
noncomputable abbrev bD (B:Ar) (u:Int):Nat:=Below' B (λx=>(B.nd x).data.length) u
def Dups (sf:Int) (B:Ar) (r:Int→Nat) (a b k:Nat):Prop:=∀(A:Ar) (h:AHeap) (F:Nat→Prop) (d u:Int),PW sf h F a A→Src h F a A b B→Lim A→ArOk A 0→Cl A→isDoc A d→B.has u→lowR B r u<k→sf≤A.len→A.len+3*bN B u+3≤1000000000→
 Eff sf 29 [.ptr (some (a,0)),.int .i64 d,.ptr (some (b,0)),.int .i64 u,.bool true] h F a λv A'=>v= .int .i64 (A.len+1)∧(∃c,c≤3*bN B u∧DupR A A' B u true c)∧Cpy A A' B (bD B u)
structure DI (sf:Int) (h0:AHeap) (F0:Nat→Prop) (a b:Nat) (A1 B:Ar) (t:Int) (l:List Int) (k:Nat) (h:AHeap) (A:Ar) (F:Nat→Prop):Prop where
 w:PW sf h F a A
 x:Ext h0 F0 h F
 s:Src h F a A b B
 ds:∃c,c≤3*((l.take k).map (bN B)).sum∧DS A1 A B t l k c
 cp:Cpy A1 A B ((l.take k).map (bD B)).sum
theorem dup_one {h0:AHeap} {F0:Nat→Prop} (ih:Dups sf B r a b k) (i:Nat) (q:DI sf h0 F0 a b A1 B t l i h A F) (hi:i<l.length) (lm1:Lim A1) (lb:Lim B) (ok1:ArOk A1 0) (okB:ArOk B 0) (hd:isDoc A1 d)
  (ht:A1.has t) (hp:isPar (A1.nd t).kind) (hu:A1.up t=0∨(A1.up t≠t∧A1.has (A1.up t)∧A1.up (A1.up t)=0)) (hsf:sf<t) (htB:b=a→B.len<t)
  (hl:∀y∈l,B.has y∧(B.nd y).par≠0∧lowR B r y<k) (hn:A1.len+3*(l.map (bN B)).sum+3≤1000000000):
  ∃h2 h3 A' F' e,Ret cx 29 [.ptr (some (a,0)),.int .i64 d,.ptr (some (b,0)),.int .i64 l[i],.bool true] h (.int .i64 (A.len+1)) h2∧Ret cx 55 [.ptr (some (a,0)),.int .i64 t,.int .i64 (A.len+1),I 0] h2 (.int .i64 e) h3∧DI sf h0 F0 a b A1 B t l (i+1) h3 A' F':=by
 obtain⟨w,x0,s,⟨c,hc,ds⟩,cp⟩:=q;obtain⟨y1,y2,y3⟩:=hl _ (List.getElem_mem hi);have ts1:=take_sum (u:=bN B) hi;have ts2:=take_sum (u:=bD B) hi;have tl:=take_le (u:=bN B) (l:=l) (k:=i+1);have hle:=ds.le;have lmA:Lim A:=cp.lim lm1 lb (by omega);have hdA:isDoc A d:=⟨ds.gx.has hd.1,by
  by_cases hdt:d=t
  ·rw[hdt,ds.tn];rw[hdt] at hd;exact hd.2
  ·rw[ds.gx.nd d hd.1 hdt];exact hd.2⟩
 have htl:=has_lt ht;have hge:=ds.gx.len;obtain⟨_,A2,h2,F2,r2,w2,x2,rfl,⟨c1,hc1,dr⟩,cp2⟩:=ih A h F d l[i] w s lmA ds.ok cp.cl hdA y1 y3 (by omega) (by omega);have eg:l.getD i 0=l[i]:=by simp[List.getD_eq_getElem?_getD,hi]
 have kk:=(okB.nok _ y1).root y2;obtain⟨ft,ds'⟩:=ds.next ht hp hu (by rw[eg];exact dr) (by rw[eg];exact kk);have cpa:=cp.trans cp2;have hle2:=dr.le;have lm2:Lim A2:=cpa.lim lm1 lb (by omega);obtain⟨_,A3,h3,F3,r3,w3,x3,⟨e,rfl⟩,rfl⟩:=E112 (p:=t) (x:=A.len+1) (b:=0) w2 lm2 dr.ok λ_ _=>⟨hsf,λh=>absurd dr.par h⟩;have hA2:∀z,A.has z→A2.nd z=A.nd z:=λz hz=>dr.gr.nd' hz;have htA:A.has t:=ds.gx.has ht;have mv:=Mv.tput (p:=t) (n:=A.len+1) (b:=0) dr.ok;have s2:Src h2 F2 a A2 b B:=s.next w x2 dr.gr.len λ_ hB z hz=>hA2 z (has_le hB hz);have s3:Src h3 F3 a (A2.tput t (A.len+1) 0) b B:=s2.next w2 x3 mv.le λe hB z hz=>by
  have h5:=htB e;have h6:=has_lt hz;have z1:A1.has z:=⟨hz.1,by have:=ht.2;omega⟩;have zt:z≠t:=by omega
  rw[ds'.gx.nd z z1 zt,hA2 z (ds.gx.has z1),ds.gx.nd z z1 zt]
 exact⟨h2,h3,_,F3,e,r2,r3,w3,(x0.trans x2).trans x3,s3,⟨c+c1,by omega,ds'⟩,(cpa.trans (.mv mv (cp2.cl.of λ_=>tput_inr))).mono (by omega)⟩
end
end Go.Am
end
section
namespace Go.Am
open Go
set_option maxRecDepth 100000
def dupFirst (p q r w v4:AVal) (c3:List AVal):IT:=
 .cnd v4 (
 .call 9 [p,(g c3 10)] λv5=>
 .ret .normal [v5,v5]) (
 .op (.int .eql) [(g c3 0),(I 2)] λv6=>
 .join 100037 (
 .cnd v6 (
 .call 69 [p,q] λv7=>
 .op (.ext 0) [v7] λv8=>
 .op (.ext 1) [v7] λv9=>
 .ret .normal [v8]) (
 .op (.int .eql) [(g c3 0),(I 3)] λv10=>
 .join 100045 (
 .cnd v10 (
 .call 70 [p,q,(g c3 5),(g c3 8),(g c3 9)] λv11=>
 .op (.ext 0) [v11] λv12=>
 .op (.ext 1) [v11] λv13=>
 .ret .normal [v12]) (
 .op (.int .eql) [(g c3 0),(I 5)] λv14=>
 .join 100059 (
 .cnd v14 (
 .call 54 [p,q,(g c3 7)] λv15=>
 .op (.ext 0) [v15] λv16=>
 .op (.ext 1) [v15] λv17=>
 .ret .normal [v16]) (
 .op (.int .eql) [(g c3 0),(I 6)] λv18=>
 .join 100069 (
 .cnd v18 (
 .call 71 [p,q,(g c3 7)] λv19=>
 .op (.ext 0) [v19] λv20=>
 .op (.ext 1) [v19] λv21=>
 .ret .normal [v20]) (
 .op (.int .eql) [(g c3 0),(I 4)] λv22=>
 .join 100079 (
 .cnd v22 (
 .call 18 [p,q,(g c3 4),(g c3 5),(g c3 6)] λv23=>
 .op (.ext 0) [v23] λv24=>
 .op (.ext 1) [v23] λv25=>
 .join 200017 (
 .cnd w (
 .op (.int .neq) [(g c3 11),(I 0)] λv26=>
 .ret .normal [v26]) (
 .ret .normal [ff])) (
 λx c27=>match x with
 | .normal=>
 .join 100098 (
 .cnd (g c27 0) (
 .call 7 [p,v24] λv28=>
 .op (.ext 0) [v28] λv29=>
 .op (.ext 1) [v28] λv30=>
 .cells 13 v29 λc31=>
 .call 72 [p,q] λv32=>
 .op (.ext 0) [v32] λv33=>
 .op (.ext 1) [v32] λv34=>
 .call 73 [r,(g c3 11)] λv35=>
 .op (.len false) [v35] λv36=>
 .loop 21 [(I 0)] (λc37=>
 .op (.int .lss) [(g c37 0),v36] λv38=>
 .cnd v38 (
 .op (.eaddr 1) [v35,(g c37 0)] λv39=>
 .load none v39 λv40=>
 .call 29 [p,v33,r,v40,tt] λv41=>
 .call 55 [p,(g c31 11),v41,(I 0)] λv42=>
 .op (.int .add) [(g c37 0),(I 1)] λv43=>
 .ret .normal [v43]) (
 .ret (.exit 1) [(g c37 0)])) (
 λx c44=>match x with
 | .normal=>
 .fail
 | .exit i=>
 if i=1 then
 .ret .normal []
 else
 .ret (.exit i) []
 | .ret=>
 .ret .ret [])) (
 .ret .normal [])) (
 λx c45=> .ret x [v24])
 | .exit i=>
 .ret (.exit i) [v24]
 | .ret=>
 .ret .ret [v24])) (
 .ret .normal [(I 0)])) (
 λx c46=> .ret x [(g c46 0)]))) (
 λx c47=> .ret x [(g c47 0)]))) (
 λx c48=> .ret x [(g c48 0)]))) (
 λx c49=> .ret x [(g c49 0)]))) (
 λx c50=> .ret x [q,(g c50 0)]))
def dupTail (p r w:AVal) (c3:List AVal):AExit→List AVal→IT:=
 λx c51=>match x with
 | .normal=>
 .join 100130 (
 .cnd w (
 .op (.len false) [(g c3 2)] λv52=>
 .loop 27 [(I 0)] (λc53=>
 .op (.int .lss) [(g c53 0),v52] λv54=>
 .cnd v54 (
 .op (.eaddr 1) [(g c3 2),(g c53 0)] λv55=>
 .load none v55 λv56=>
 .call 29 [p,(g c51 0),r,v56,tt] λv57=>
 .call 55 [p,(g c51 1),v57,(I 0)] λv58=>
 .op (.int .add) [(g c53 0),(I 1)] λv59=>
 .ret .normal [v59]) (
 .ret (.exit 3) [(g c53 0)])) (
 λx c60=>match x with
 | .normal=>
 .fail
 | .exit i=>
 if i=3 then
 .ret .normal []
 else
 .ret (.exit i) []
 | .ret=>
 .ret .ret [])) (
 .ret .normal [])) (
 nx (λc61=>
 .ret .ret [(g c51 1)]) λc61=>
 .ret .ret [(I 0)])
 | .exit i=>
 if i=0 then
 .join 100130 (
 .cnd w (
 .op (.len false) [(g c3 2)] λv62=>
 .loop 27 [(I 0)] (λc63=>
 .op (.int .lss) [(g c63 0),v62] λv64=>
 .cnd v64 (
 .op (.eaddr 1) [(g c3 2),(g c63 0)] λv65=>
 .load none v65 λv66=>
 .call 29 [p,(g c51 0),r,v66,tt] λv67=>
 .call 55 [p,(g c51 1),v67,(I 0)] λv68=>
 .op (.int .add) [(g c63 0),(I 1)] λv69=>
 .ret .normal [v69]) (
 .ret (.exit 3) [(g c63 0)])) (
 λx c70=>match x with
 | .normal=>
 .fail
 | .exit i=>
 if i=3 then
 .ret .normal []
 else
 .ret (.exit i) []
 | .ret=>
 .ret .ret [])) (
 .ret .normal [])) (
 nx (λc71=>
 .ret .ret [(g c51 1)]) λc71=>
 .ret .ret [(I 0)])
 else
 .fail
 | .ret=>
 .ret .ret [(I 0)]
theorem dup_parts (p q r u w:AVal):t29 p q r u w= .call 7 [r,u] λv0=> .op (.ext 0) [v0] λv1=> .op (.ext 1) [v0] λ_=> .cells 13 v1 λc3=> .op (.int .eql) [(g c3 0),(I 1)] λv4=> .join 100030 (dupFirst p q r w v4 c3) (dupTail p r w c3):=rfl
section
variable {h h' h1:AHeap} {a b n k:Nat} {m:Option Nat} {ps:List PN} {A A' A1 A2 B:Ar} {x d u t sf:Int} {e:Int} {F F' F1:Nat→Prop} {r:Int→Nat} {l:List Int} {c3:List AVal}
theorem DI.zero (w:PW sf h F a A) (s:Src h F a A b B) (ok:ArOk A 0) (cl:Cl A) (h0:(A.nd t).kids=[]):DI sf h F a b A B t l 0 h A F:=
 ⟨w,.refl,s,⟨0,by simp,.zero ok h0⟩,by simpa using Cpy.refl cl⟩
theorem dup_tail (ih:Dups sf B r a b k) (w:PW sf h F a A) (s:Src h F a A b B) (lm1:Lim A) (lb:Lim B) (ok1:ArOk A 0) (cl:Cl A) (okB:ArOk B 0) (hd:isDoc A d) (h0:(A.nd t).kids=[])
  (ht:A.has t) (hp:l≠[]→isPar (A.nd t).kind) (hu:A.up t=0∨(A.up t≠t∧A.has (A.up t)∧A.up (A.up t)=0)) (hsf:sf<t) (htB:b=a→B.len<t)
  (hl:∀y∈l,B.has y∧(B.nd y).par≠0∧lowR B r y<k) (hn:A.len+3*(l.map (bN B)).sum+3≤1000000000) (hll:l.length≤1000000000) {v:AVal} (hv:IsInts l v) (hc:g c3 2=v)
  {Q:Post} (hQ:∀h' A' F',DI sf h F a b A B t l l.length h' A' F'→Q .ret [.int .i64 t] h'):W cx (dupTail (.ptr (some (a,0))) (.ptr (some (b,0))) (.bool true) c3 .normal [.int .i64 d,.int .i64 t]) Q h:=by
 have lk:=IsSl.lenM hv;unfold dupTail;simp only[amS,Nat.reduceLeDiff,↓reduceIte,bxS,hc,lk];refine W_loop_st (λk:Nat=>[.int .i64 (k:Int)]) (λi h1=>i≤l.length∧∃A2 F2,DI sf h F a b A B t l i h1 A2 F2) (λi=>l.length-i) 0 rfl ⟨Nat.zero_le _,A,F,.zero w s ok1 cl h0⟩ ?_;rintro i h1 ⟨hi,A2,F2,q⟩;rcases Nat.lt_or_ge i l.length with hlt|hge
 ·have i1:(i:Int)<(l.length:Int):=by omega
  obtain⟨p',e1,e2⟩:=(IsInts.ints (h:=h1) hv).at_ i hlt;obtain⟨h2,h3,A3,F3,e,r2,r3,q3⟩:=dup_one ih i q hlt lm1 lb ok1 okB hd ht (hp λh=>by rw[h] at hlt;simp at hlt) hu hsf htB hl hn;simp only[amS,Nat.reduceLeDiff,↓reduceIte,bxS,i1,e1,e2,r2,r3,pe_incN i];exact LoopPost.next (i+1) rfl ⟨hlt,A3,F3,q3⟩ (by omega)
 ·have i1:¬(i:Int)<(l.length:Int):=by omega
  obtain rfl:i=l.length:=by omega
  simp only[amS,Nat.reduceLeDiff,↓reduceIte,bxS,i1];exact hQ _ _ _ q
theorem dup_first {K V:AVal} {deep:Bool} (w:PW sf h F a A) (lm:Lim A) (ok:ArOk A 0) (nb:NOk (B.nd u)) (hd:isDoc A d) (hn:A.len+3≤1000000000) (hV:AttrsAt h V (B.nd u).attrs) (hal:(B.nd u).attrs.length≤1000000000) (hc:deep=false∨(B.nd u).cont=0):
  ∃d' h2 F2,(∀Q:Post,Q .normal [.int .i64 d',.int .i64 (A.len+1)] h2→W cx (dupFirst (.ptr (some (a,0))) (.int .i64 d) (.ptr (some (b,0))) (.bool deep) (.bool (decide ((B.nd u).kind=1))) [.int .i64 (B.nd u).kind,.int .i64 (B.nd u).par,K,.int .i64 (B.nd u).doc,.int .i64 (B.nd u).space,.str (B.nd u).name,V,.str (B.nd u).data,.str (B.nd u).pub,.str (B.nd u).sys,.bool (B.nd u).quirks,.int .i64 (B.nd u).cont,.int .i64 (B.nd u).host]) Q h)∧
   PW sf h2 F2 a (A.likeN d (B.nd u))∧Ext h F h2 F2∧isDoc (A.likeN d (B.nd u)) d':=by
 have h16:=nb.k;by_cases k1:(B.nd u).kind=1
 ·obtain⟨_,A2,h2,F2,r2,w2,x2,rfl,rfl⟩:=E26 w lm (by omega) (B.nd u).quirks;have e:A.likeN d (B.nd u)=A.add {kind:=1,quirks:=(B.nd u).quirks,doc:=A.len+1}:=by unfold Ar.likeN;rw[if_pos k1]
  rw[e];refine⟨A.len+1,h2,F2,λQ hQ=>?_,w2,x2,has_add.2 (.inr rfl),by rw[nd_add,if_pos rfl]⟩;unfold dupFirst;simp only[amS,Nat.reduceLeDiff,↓reduceIte,bxS,k1,eq_self,decide_true,r2];exact hQ
 have doc':∀y:ANode,isDoc (A.add y) d:=λy=>⟨has_add.2 (.inl hd.1),by rw[nd_add,if_neg (by have:=has_lt hd.1;omega)];exact hd.2⟩;by_cases k2:(B.nd u).kind=2
 ·obtain⟨_,A2,h2,F2,r2,w2,x2,p2⟩:=E644 (d:=d) w lm (by omega);rcases p2 with⟨_,rfl,rfl⟩|⟨hn,_⟩
  ·have e:A.likeN d (B.nd u)=A.add {kind:=2,doc:=d}:=by unfold Ar.likeN;rw[if_neg k1,if_pos k2]
   rw[e];refine⟨d,h2,F2,λQ hQ=>?_,w2,x2,doc' _⟩;unfold dupFirst;simp only[amS,Nat.reduceLeDiff,↓reduceIte,bxS,k2,Int.reduceEq,decide_false,r2];exact hQ
  ·exact absurd hd hn
 by_cases k3:(B.nd u).kind=3
 ·obtain⟨_,A2,h2,F2,r2,w2,x2,p2⟩:=E482 (d:=d) w lm (by omega) (B.nd u).name (B.nd u).pub (B.nd u).sys;rcases p2 with⟨_,rfl,rfl⟩|⟨hn,_⟩
  ·have e:A.likeN d (B.nd u)=A.add {kind:=3,doc:=d,name:=(B.nd u).name,pub:=(B.nd u).pub,sys:=(B.nd u).sys}:=by unfold Ar.likeN;rw[if_neg k1,if_neg k2,if_pos k3]
   rw[e];refine⟨d,h2,F2,λQ hQ=>?_,w2,x2,doc' _⟩;unfold dupFirst;simp only[amS,Nat.reduceLeDiff,↓reduceIte,bxS,k3,Int.reduceEq,decide_false,r2];exact hQ
  ·exact absurd hd hn
 by_cases k5:(B.nd u).kind=5
 ·obtain⟨_,A2,h2,F2,r2,w2,x2,p2⟩:=E37 (d:=d) w lm (by omega) (B.nd u).data;rcases p2 with⟨_,rfl,rfl⟩|⟨hn,_⟩
  ·have e:A.likeN d (B.nd u)=A.add {kind:=5,doc:=d,data:=(B.nd u).data}:=by unfold Ar.likeN;rw[if_neg k1,if_neg k2,if_neg k3,if_pos k5]
   rw[e];refine⟨d,h2,F2,λQ hQ=>?_,w2,x2,doc' _⟩;unfold dupFirst;simp only[amS,Nat.reduceLeDiff,↓reduceIte,bxS,k5,Int.reduceEq,decide_false,r2];exact hQ
  ·exact absurd hd hn
 by_cases k6:(B.nd u).kind=6
 ·obtain⟨_,A2,h2,F2,r2,w2,x2,p2⟩:=E135 (d:=d) w lm (by omega) (B.nd u).data;rcases p2 with⟨_,rfl,rfl⟩|⟨hn,_⟩
  ·have e:A.likeN d (B.nd u)=A.add {kind:=6,doc:=d,data:=(B.nd u).data}:=by unfold Ar.likeN;rw[if_neg k1,if_neg k2,if_neg k3,if_neg k5,if_pos k6]
   rw[e];refine⟨d,h2,F2,λQ hQ=>?_,w2,x2,doc' _⟩;unfold dupFirst;simp only[amS,Nat.reduceLeDiff,↓reduceIte,bxS,k6,k1,k2,k3,k5,Int.reduceEq,decide_false,r2];exact hQ
  ·exact absurd hd hn
 have k4:(B.nd u).kind=4:=by omega
 obtain⟨_,A2,h2,F2,r2,w2,x2,p2⟩:=E152 (d:=d) w lm (by omega) hV.in_ hal (B.nd u).space (B.nd u).name;rcases p2 with⟨_,_,_,rfl,rfl⟩|⟨hn,_⟩
 ·have e:A.likeN d (B.nd u)=A.elem d (B.nd u).space (B.nd u).name (B.nd u).attrs:=by unfold Ar.likeN;rw[if_neg k1,if_neg k2,if_neg k3,if_neg k5,if_neg k6]
  have nf:=newF ok nb hd;rw[e] at nf⊢;refine⟨d,h2,F2,λQ hQ=>?_,w2,x2,nf.gr.has hd.1,by rw[nf.gr.nd' hd.1];exact hd.2⟩;unfold dupFirst;rcases hc with rfl|hc
  ·simp only[amS,Nat.reduceLeDiff,↓reduceIte,bxS,k4,Int.reduceEq,decide_false,r2];exact hQ
  ·cases deep
   ·simp only[amS,Nat.reduceLeDiff,↓reduceIte,bxS,k4,Int.reduceEq,decide_false,r2];exact hQ
   ·simp only[amS,Nat.reduceLeDiff,↓reduceIte,bxS,k4,Int.reduceEq,decide_false,r2,hc,ne_eq,eq_self];exact hQ
 ·exact absurd ⟨hd,nb.sp,nb.asp⟩ hn
end
end Go.Am
end
section
namespace Go.Am
open Go
set_option maxRecDepth 100000
section
variable {h h' h1:AHeap} {a b n k:Nat} {m:Option Nat} {ps:List PN} {A A' A1 A2 B:Ar} {x d u t sf:Int} {e:Int} {F F' F1:Nat→Prop} {r:Int→Nat} {l:List Int} {c3:List AVal}
theorem elem_inr {sp:Int} {nm:Bytes} {at_:List Attr} (c:Cl A) (ok:ArOk A 0) (hd:A.has d) (hT:isT {kind:=4,doc:=d,space:=sp,name:=nm,attrs:=once at_}):(A.elem d sp nm at_).inr d≠0:=by
 unfold Ar.elem;simp only
 rw[if_pos hT];have il1:(A.add {kind:=4,doc:=d,space:=sp,name:=nm,attrs:=once at_}).i.length=(A.add {kind:=4,doc:=d,space:=sp,name:=nm,attrs:=once at_}).n.length:=il_add' ok.il;obtain⟨_,h2,h3,_⟩:=(c.add (y:={kind:=4,doc:=d,space:=sp,name:=nm,attrs:=once at_}) ok.il).inert0 il1 (has_add.2 (.inl hd));rw[inr_set,inr_add (il_inert' il1),h2];exact h3
theorem dup_temp {K V:AVal} (ih:Dups sf B r a b k) (w:PW sf h F a A) (s:Src h F a A b B) (lm:Lim A) (lb:Lim B) (ok:ArOk A 0) (cl:Cl A) (okB:ArOk B 0) (hu:B.has u) (hd:isDoc A d) (hsf:sf≤A.len) (hsB:b=a→B.len≤A.len)
  (hV:AttrsAt h V (B.nd u).attrs) (hc:(B.nd u).cont≠0) (hl:∀y∈(B.nd (B.nd u).cont).kids,B.has y∧(B.nd y).par≠0∧lowR B r y<k) (hn:A.len+3*((B.nd (B.nd u).cont).kids.map (bN B)).sum+6≤1000000000):
  ∃h1 F1,PW sf h1 F1 a (A.likeN d (B.nd u))∧Ext h F h1 F1∧∀Q:Post,(∀h' A2 F2,DI sf h1 F1 a b (A.likeN d (B.nd u)) B ((A.likeN d (B.nd u)).nd (A.len+1)).cont (B.nd (B.nd u).cont).kids (B.nd (B.nd u).cont).kids.length h' A2 F2→Q .normal [.int .i64 d,.int .i64 (A.len+1)] h')→W cx (dupFirst (.ptr (some (a,0))) (.int .i64 d) (.ptr (some (b,0))) (.bool true) (.bool (decide ((B.nd u).kind=1))) [.int .i64 (B.nd u).kind,.int .i64 (B.nd u).par,K,.int .i64 (B.nd u).doc,.int .i64 (B.nd u).space,.str (B.nd u).name,V,.str (B.nd u).data,.str (B.nd u).pub,.str (B.nd u).sys,.bool (B.nd u).quirks,.int .i64 (B.nd u).cont,.int .i64 (B.nd u).host]) Q h:=by
 have nb:=okB.nok u hu;have hT:=nb.contT hc;have k4:(B.nd u).kind=4:=hT.1;obtain⟨c1,c2,c3⟩:=cont_up okB hu hc;have hkB:=lb.kids okB;obtain⟨_,A1,h1,F1,r2,w1,x1,p2⟩:=E152 (d:=d) w lm (by omega) hV.in_ (lb.at_ u) (B.nd u).space (B.nd u).name;have eL:A.likeN d (B.nd u)=A.elem d (B.nd u).space (B.nd u).name (B.nd u).attrs:=by unfold Ar.likeN;rw[if_neg (by omega),if_neg (by omega),if_neg (by omega),if_neg (by omega),if_neg (by omega)]
 rcases p2 with⟨_,_,_,rfl,rfl⟩|⟨hn',_⟩
 rotate_left
 ·exact absurd ⟨hd,nb.sp,nb.asp⟩ hn'
 rw[←eL] at w1;have nf:=newF ok nb hd;have cp:=Cpy.like (u:=u) cl ok hd.1 nb;have hi:(A.likeN d (B.nd u)).inr d≠0:=by rw[eL];exact elem_inr cl ok hd.1 (by have:=hT;unfold isT at this⊢;exact⟨rfl,this.2.1,this.2.2⟩)
 have ct:=nf.ct0 okB hu rfl;generalize hA1:A.likeN d (B.nd u)=A1 at*;have hct:(A1.nd (A.len+1)).cont≠0:=λh=>hc (ct.1 h);obtain⟨d1,d2,d3⟩:=cont_up nf.ok nf.has hct;obtain⟨t1,t2,t3⟩:=nf.ct.resolve_left hct;have hd1:isDoc A1 d:=⟨nf.gr.has hd.1,by rw[nf.gr.nd' hd.1];exact hd.2⟩;have lm1:Lim A1:=cp.lim lm lb (by have:=nf.le;omega);have s1:Src h1 F1 a A1 b B:=s.next w x1 nf.gr.len λ_ hB z hz=>nf.gr.nd' (has_le hB hz);obtain⟨n1,m1,ps1,w1',rfl⟩:=w1.pa_;obtain⟨rr,t,r5,K2,V2,rfl,_⟩:=f97w (x:=A.len+1) w1' lm1 (lm1.kids nf.ok _);rw[if_pos nf.has] at r5;have w1a:=(w1'.app (t:=t)).pw_;have eA:A1.inertA d=A1:=by unfold Ar.inertA;rw[if_pos hi]
 have d4:isDoc A1 (A1.inertH d):=by obtain⟨_,h2,h3⟩:=ok_inert nf.ok hd1.1 (by have:=hd1.1.1;unfold Ar.len;omega);rw[eA] at h2 h3;exact⟨h2,h3⟩
 have hle:=nf.le;obtain⟨_,A2,h3,F3,r6,w3,x3,p3⟩:=E645 (d:=d) w1a lm1 (by omega);rcases p3 with⟨_,rfl,rfl⟩|⟨hn',_⟩
 rotate_left
 ·exact absurd hd1 hn'
 rw[eA] at w3;have s3:Src h3 F3 a A1 b B:=(s1.next w1'.pw_ (.app (t:=t)) (Int.le_refl _) λ_ _ _ _=>rfl).next w1a x3 (Int.le_refl _) λ_ _ _ _=>rfl
 obtain⟨v,r7,hv⟩:=s3.kids w3 lm1 lb nf.ok okB c1;have lk:=IsSl.lenM hv;have hkl:=hkB (B.nd u).cont;have q0:DI sf h1 (λi=>i∈ids a n1 m1 ps1) a b A1 B (A1.nd (A.len+1)).cont (B.nd (B.nd u).cont).kids 0 h3 A1 F3:=⟨w3,Ext.app.trans x3,s3,⟨0,by simp,.zero nf.ok t2⟩,by simpa using Cpy.refl cp.cl⟩;refine⟨h1,_,w1'.pw_,x1,λQ hQ=>?_⟩;unfold dupFirst;simp only[amS,Nat.reduceLeDiff,↓reduceIte,bxS,k4,Int.reduceEq,decide_false,r2,hc,ne_eq,r5,r6,r7,lk];refine W_loop_st (λk:Nat=>[.int .i64 (k:Int)]) (λi h'=>i≤(B.nd (B.nd u).cont).kids.length∧∃A2 F2,DI sf h1 (λi=>i∈ids a n1 m1 ps1) a b A1 B (A1.nd (A.len+1)).cont (B.nd (B.nd u).cont).kids i h' A2 F2) (λi=>(B.nd (B.nd u).cont).kids.length-i) 0 rfl ⟨Nat.zero_le _,A1,F3,q0⟩ ?_;rintro i h4 ⟨hi',A2,F2,q⟩;rcases Nat.lt_or_ge i (B.nd (B.nd u).cont).kids.length with hlt|hge
 ·have i1:(i:Int)<((B.nd (B.nd u).cont).kids.length:Int):=by omega
  obtain⟨p',e1,e2⟩:=(IsInts.ints (h:=h4) hv).at_ i hlt;obtain⟨h5,h6,A3,F4,e,r8,r9,q3⟩:=dup_one ih i q hlt lm1 lb nf.ok okB d4 d1 (by rw[d3];exact .inr (.inl rfl)) (.inr ⟨by rw[d2];omega,by rw[d2];exact nf.has,by rw[d2];unfold Ar.up;rw[nf.par,nf.host];rfl⟩) (by omega) (λe=>by have:=hsB e;omega) hl (by omega);simp only[amS,Nat.reduceLeDiff,↓reduceIte,bxS,i1,e1,e2,r8,r9,pe_incN i];exact LoopPost.next (i+1) rfl ⟨hlt,A3,F4,q3⟩ (by omega)
 ·have i1:¬(i:Int)<((B.nd (B.nd u).cont).kids.length:Int):=by omega
  obtain rfl:i=(B.nd (B.nd u).cont).kids.length:=by omega
  simp only[amS,Nat.reduceLeDiff,↓reduceIte,bxS,i1];exact hQ _ _ _ q
theorem dups (okB:ArOk B 0) (lb:Lim B) (hr:∀h,B.has h→B.up h≠0→r (B.up h)<r h):∀k,Dups sf B r a b k
 |0=>λ_ _ _ _ _ _ _ _ _ _ _ _ hk=>absurd hk (Nat.not_lt_zero _)
 |k+1=>λA h F d u w s lm ok cl hd hu hk hsf hn=>by
  have ih:=dups okB lb hr k;have nb:=okB.nok u hu;obtain⟨q,t,r1,hq⟩:=s.node w lm lb ok okB hu;obtain⟨K,V,rfl,hK,hV,_⟩:=hq;have w1:=w.app (t:=t);have s1:Src (h++t) F a A b B:=s.next w .app (Int.le_refl _) λ_ _ _ _=>rfl;have hsB:b=a→B.len≤A.len:=λe=>by
   rcases s with⟨_,h1,_⟩|⟨h1,_⟩
   ·exact h1
   ·exact absurd e h1
  have nf:=newF ok nb hd;have cp:=Cpy.like (u:=u) cl ok hd.1 nb;have hle:=nf.le;have u0:u≠0:=by have:=hu.1;omega
  have low:∀y,B.has y→B.up y=u→lowR B r y<k:=λy hy hup=>by have h5:=hr y hy (by rw[hup];exact u0);rw[hup] at h5;have:=lowR_lt (A:=B) (r:=r) hy h5;omega
  have hlk:∀y∈(B.nd u).kids,B.has y∧(B.nd y).par≠0∧lowR B r y<k:=λy hy=>by obtain⟨h1,h2⟩:=okB.kid u hu y hy;exact⟨h1,by rw[h2];exact u0,low y h1 ((kin_kids okB hu).2 y hy).2⟩
  have hp:(B.nd u).kids≠[]→isPar ((A.likeN d (B.nd u)).nd (A.len+1)).kind:=λh=>by rw[kind_of_core nf.co];exact nb.kids h
  have hup:(A.likeN d (B.nd u)).up (A.len+1)=0:=by unfold Ar.up;rw[nf.par,nf.host];rfl
  have lm1:Lim (A.likeN d (B.nd u)):=cp.lim lm lb (by omega);have hkB:=lb.kids okB;have hev:Ev cx 29 [.ptr (some (a,0)),.int .i64 d,.ptr (some (b,0)),.int .i64 u,.bool true] h λv h'=>v= .int .i64 (A.len+1)∧∃A' F',PW sf h' F' a A'∧Ext h F h' F'∧(∃c,c≤3*bN B u∧DupR A A' B u true c)∧Cpy A A' B (bD B u):=by
   unfold Ev;rw[t29_eq,dup_parts];simp only[amS,Nat.reduceLeDiff,↓reduceIte,bxS,r1];by_cases hc:(B.nd u).cont=0
   ·have b1:((B.nd u).kids.map (bN B)).sum+1≤bN B u:=below_sum okB (λ_=>1) hu (kin_kids okB hu);have b2:((B.nd u).kids.map (bD B)).sum+(B.nd u).data.length≤bD B u:=below_sum okB (λx=>(B.nd x).data.length) hu (kin_kids okB hu);obtain⟨d',h2,F2,hW,w2,x2,hd'⟩:=dup_first (K:=K) (V:=V) (deep:=true) (b:=b) (u:=u) (B:=B) w1 lm ok nb hd (by omega) hV (lb.at_ u) (.inr hc);refine hW _ ?_;have s2:Src h2 F2 a (A.likeN d (B.nd u)) b B:=s1.next w1 x2 nf.gr.len λ_ hB z hz=>nf.gr.nd' (has_le hB hz);refine dup_tail ih w2 s2 lm1 lb nf.ok cp.cl okB hd' nf.kids nf.has hp (.inl hup) (by omega) (λe=>by have:=hsB e;omega) hlk (by omega) (hkB u) hK rfl λh' A' F' q=>?_;obtain⟨w3,x3,_,⟨c,hcc,ds⟩,cp3⟩:=q;rw[List.take_length] at hcc cp3;exact⟨rfl,_,rfl,rfl,A',F',w3,Ext.app.trans (x2.trans x3),⟨3+0+c,by omega,dup_deep okB hu nf (.inl ⟨hc,rfl,rfl⟩) ds⟩,(cp.trans cp3).mono (by omega)⟩
   ·obtain⟨c1,c2,c3⟩:=cont_up okB hu hc;have b1:bN B (B.nd u).cont+((B.nd u).kids.map (bN B)).sum+1≤bN B u:=by have:=below_sum okB (λ_=>1) hu (kin_all okB hu hc);rw[List.map_cons,List.sum_cons] at this;exact this
    have b2:bD B (B.nd u).cont+((B.nd u).kids.map (bD B)).sum+(B.nd u).data.length≤bD B u:=by have:=below_sum okB (λx=>(B.nd x).data.length) hu (kin_all okB hu hc);rw[List.map_cons,List.sum_cons] at this;exact this
    have b3:((B.nd (B.nd u).cont).kids.map (bN B)).sum+1≤bN B (B.nd u).cont:=below_sum okB (λ_=>1) c1 (kin_kids okB c1);have b4:((B.nd (B.nd u).cont).kids.map (bD B)).sum+(B.nd (B.nd u).cont).data.length≤bD B (B.nd u).cont:=below_sum okB (λx=>(B.nd x).data.length) c1 (kin_kids okB c1);have ct0:(B.nd u).cont≠0:=hc;have lc:=low _ c1 c2;obtain⟨h2,F2,w2,x2,hW⟩:=dup_temp (K:=K) (V:=V) ih w1 s1 lm lb ok cl okB hu hd hsf hsB hV hc (λy hy=>by obtain⟨h1,h2⟩:=okB.kid _ c1 y hy;have c0:(B.nd u).cont≠0:=hc;have hupy:=((kin_kids okB c1).2 y hy).2;have h5:=hr y h1 (by rw[hupy];exact c0);rw[hupy] at h5;have:=lowR_lt (A:=B) (r:=r) h1 h5;exact⟨h1,by rw[h2];exact c0,by omega⟩) (by omega)
    refine hW _ λh3 A2 F3 q2=>?_;obtain⟨w3,x3,s3,⟨cc2,hcc2,ds2⟩,cp2⟩:=q2;rw[List.take_length] at hcc2 cp2;have ct:=nf.ct0 okB hu rfl;have hct:((A.likeN d (B.nd u)).nd (A.len+1)).cont≠0:=λh=>hc (ct.1 h);obtain⟨t1,t2,t3⟩:=nf.ct.resolve_left hct;have hle2:=ds2.le;have lm2:Lim A2:=cp2.lim lm1 lb (by omega);have hN:A2.nd (A.len+1)=(A.likeN d (B.nd u)).nd (A.len+1):=ds2.gx.nd _ nf.has (by omega);have hdl:=has_lt hd.1;have hd2:isDoc A2 d:=⟨ds2.gx.has (nf.gr.has hd.1),by rw[ds2.gx.nd d (nf.gr.has hd.1) (by omega),nf.gr.nd' hd.1];exact hd.2⟩;refine dup_tail ih w3 s3 lm2 lb ds2.ok cp2.cl okB hd2 (by rw[hN];exact nf.kids) (ds2.gx.has nf.has) (λh=>by rw[hN];exact hp h) (.inl (by unfold Ar.up at hup⊢;rw[hN];exact hup)) (by omega) (λe=>by have:=hsB e;omega) hlk (by omega) (hkB u) hK rfl λh' A' F' q=>?_;obtain⟨w4,x4,_,⟨c,hcc,ds⟩,cp3⟩:=q;rw[List.take_length] at hcc cp3;exact⟨rfl,_,rfl,rfl,A',F',w4,Ext.app.trans ((x2.trans x3).trans x4),⟨3+cc2+c,by omega,dup_deep okB hu nf (.inr ⟨hc,ds2⟩) ds⟩,((cp.trans cp2).trans cp3).mono (by omega)⟩
  obtain⟨v,h',hr',rfl,A',F',w',x',hdu,hcp⟩:=hev.ret;exact⟨_,A',h',F',hr',w',x',rfl,hdu,hcp⟩
end
end Go.Am
end
section
namespace Go.Am
open Go
set_option maxRecDepth 100000
section
variable {h h' h1:AHeap} {a b n k:Nat} {m:Option Nat} {ps:List PN} {A A' A1 A2 B:Ar} {x d u t sf:Int} {e:Int} {F F' F1:Nat→Prop} {r:Int→Nat} {l:List Int}
def Dup (A B:Ar) (u:Int) (deep:Bool) (v:AVal) (A':Ar):Prop:=v= .int .i64 (A.len+1)∧(∃c,c≤3*bN B u∧DupR A A' B u deep c)∧Cpy A A' B (bD B u)
theorem E627 (okB:ArOk B 0) (lb:Lim B) (w:PW sf h F a A) (s:Src h F a A b B) (lm:Lim A) (ok:ArOk A 0) (cl:Cl A) (hd:isDoc A d) (hu:B.has u) (hsf:sf≤A.len) (hn:A.len+3*bN B u+3≤1000000000) (deep:Bool):
  Eff sf 29 [.ptr (some (a,0)),.int .i64 d,.ptr (some (b,0)),.int .i64 u,.bool deep] h F a (Dup A B u deep):=by
 cases deep
 ·have nb:=okB.nok u hu;obtain⟨q,t,r1,hq⟩:=s.node w lm lb ok okB hu;obtain⟨K,V,rfl,hK,hV,_⟩:=hq;have w1:=w.app (t:=t);have nf:=newF ok nb hd;have cp:=Cpy.like (u:=u) cl ok hd.1 nb;have hle:=nf.le;have b1:1≤bN B u:=by have:=below_sum okB (λ_=>1) hu (ks:=[]) ⟨List.nodup_nil,λ_ h=>by cases h⟩;simpa using this
  have b2:(B.nd u).data.length≤bD B u:=by have:=below_sum okB (λx=>(B.nd x).data.length) hu (ks:=[]) ⟨List.nodup_nil,λ_ h=>by cases h⟩;simpa using this
  obtain⟨d',h2,F2,hW,w2,x2,hd'⟩:=dup_first (K:=K) (V:=V) (deep:=false) (b:=b) (u:=u) (B:=B) w1 lm ok nb hd (by omega) hV (lb.at_ u) (.inl rfl);refine⟨.int .i64 (A.len+1),_,h2,F2,?_,w2,Ext.app.trans x2,rfl,⟨3,by omega,dup_shallow nf⟩,cp.mono b2⟩;rw[ret_iff,t29_eq,dup_parts];simp only[amS,Nat.reduceLeDiff,↓reduceIte,bxS,r1];refine hW _ ?_;unfold dupTail;simp only[amS,Nat.reduceLeDiff,↓reduceIte,bxS]
 ·obtain⟨r,hr⟩:=okB.rank;obtain⟨v,A',h',F',q1,w',x',hv,hdu,hcp⟩:=dups (sf:=sf) (a:=a) (b:=b) okB lb hr (lowR B r u+1) A h F d u w s lm ok cl hd hu (Nat.lt_succ_self _) hsf hn;exact⟨v,A',h',F',q1,w',x',hv,hdu,hcp⟩
theorem bN_le:bN B u≤B.n.length:=below_one
theorem bD_le:bD B u≤Wt B gS:=below_S
theorem E619 (w:PW sf h F a A) (lm:Lim A) (ok:ArOk A 0) (cl:Cl A) (hsf:sf≤A.len) (hn:4*A.len+3≤1000000000) (deep:Bool):
  Eff sf 12 [.ptr (some (a,0)),.int .i64 x,.bool deep] h F a λv A'=>(A.has x∧v=tup (A.len+1) 0∧(∃c,c≤3*bN A x∧DupR A A' A x deep c)∧Cpy A A' A (bD A x))∨(¬A.has x∧(∃e,v=tup 0 e)∧A'=A):=by
 obtain⟨n,m,ps,w',rfl⟩:=w.pa_;have hkb:=lm.kids ok;have hv:IsInts [x] (.sl 1 [[.int .i64 x]]):= .inl rfl;obtain⟨t,r1⟩:=f562g w' lm hkb hv (by simp) (-1);have w1:=w'.app (t:=t);have hx0:A.has x↔okH A (-1) [x]:=⟨λhx i hi=>by
  obtain rfl:i=0:=by simpa using hi
  exact .inr hx,λhk=>by have:=hk 0 (by simp);simpa using this⟩
 by_cases hk:okH A (-1) [x]
 ·rw[if_pos hk] at r1;have hx:=hx0.2 hk;obtain⟨t2,r2⟩:=f629 w1 lm hkb x;have w2:=(w1.app (t:=t2)).pw_;have hb:=bN_le (B:=A) (u:=x);have hlen:A.len=A.n.length:=rfl;obtain⟨_,A2,h2,F2,r3,w3,x3,rfl,hdu,hcp⟩:=E627 (d:=(A.nd x).doc) (b:=a) ok lm w2 (.inl ⟨rfl,Int.le_refl _,λ_ _=>rfl⟩) lm ok cl (ok.doc x hx) hx hsf (by omega) deep;refine⟨tup (A.len+1) 0,A2,h2,F2,?_,w3,Ext.trans (by rw[List.append_assoc];exact .app) x3,.inl ⟨hx,rfl,hdu,hcp⟩⟩;rw[ret_iff,t12_eq,t12];simp only[amS,Nat.reduceLeDiff,↓reduceIte,bxS,em1,r1,ne_eq,eq_self,r2,r3]
 ·rw[if_neg hk] at r1;refine⟨tup 0 3,A,_,_,?_,w1.pw_,.app,.inr ⟨λh=>hk (hx0.1 h),⟨_,rfl⟩,rfl⟩⟩;rw[ret_iff,t12_eq,t12];simp only[amS,Nat.reduceLeDiff,↓reduceIte,bxS,em1,r1,ne_eq,ieq]
end
end Go.Am
end
section
namespace Go.Am
open Go
set_option maxRecDepth 100000
section
variable {h h' h1:AHeap} {a b n k:Nat} {m:Option Nat} {ps:List PN} {A A' A1 A2 B:Ar} {x d u t sf:Int} {e:Int} {F F' F1:Nat→Prop} {r:Int→Nat} {l:List Int}
theorem okH1:okH A (-1) [x]↔A.has x:=⟨λhk=>by have:=hk 0 (by simp);simpa using this,λhx i hi=>by
 obtain rfl:i=0:=by simpa using hi
 exact .inr hx⟩
theorem Src.check (s:Src h F a A b B) (w:PW sf h F a A) (lm:Lim A) (lb:Lim B) (okA:ArOk A 0) (okB:ArOk B 0) (hB:b=a→(A.has u↔B.has u)):∃t,Ret cx 27 [.ptr (some (b,0)),.int .i64 (-1),.sl 1 [[.int .i64 u]]] h (I (if B.has u then 0 else 3)) (h++t):=by
 have hv:IsInts [u] (.sl 1 [[.int .i64 u]]):= .inl rfl;rcases s with⟨rfl,h1,h2⟩|⟨hne,sfb,Fb,wb,dj⟩
 ·obtain⟨n,m,ps,w',rfl⟩:=w.pa_;obtain⟨t,r1⟩:=f562g w' lm (lm.kids okA) hv (by simp) (-1);refine⟨t,?_⟩;by_cases hu:B.has u
  ·rw[if_pos (okH1.2 ((hB rfl).2 hu))] at r1;rw[if_pos hu];exact r1
  ·rw[if_neg (λh=>hu ((hB rfl).1 (okH1.1 h)))] at r1;rw[if_neg hu];exact r1
 ·obtain⟨n,m,ps,w',rfl⟩:=wb.pa_;obtain⟨t,r1⟩:=f562g w' lb (lb.kids okB) hv (by simp) (-1);refine⟨t,?_⟩;by_cases hu:B.has u
  ·rw[if_pos (okH1.2 hu)] at r1;rw[if_pos hu];exact r1
  ·rw[if_neg (λh=>hu (okH1.1 h))] at r1;rw[if_neg hu];exact r1
theorem Src.kind (s:Src h F a A b B) (w:PW sf h F a A) (lm:Lim A) (lb:Lim B) (okA:ArOk A 0) (okB:ArOk B 0) (hu:B.has u):∃t,Ret cx 28 [.ptr (some (b,0)),.int .i64 u] h (.int .i64 (B.nd u).kind) (h++t):=by
 rcases s with⟨rfl,h1,h2⟩|⟨hne,sfb,Fb,wb,dj⟩
 ·obtain⟨n,m,ps,w',rfl⟩:=w.pa_;obtain⟨t,r1⟩:=f626 w' lm (lm.kids okA) u;rw[h2 u hu] at r1;exact⟨t,r1⟩
 ·obtain⟨n,m,ps,w',rfl⟩:=wb.pa_;exact f626 w' lb (lb.kids okB) u
theorem E617 (okB:ArOk B 0) (lb:Lim B) (w:PW sf h F a A) (s:Src h F a A b B) (lm:Lim A) (ok:ArOk A 0) (cl:Cl A) (hsf:sf≤A.len) (hB:b=a→(A.has u↔B.has u)) (hn:A.len+3*B.len+3≤1000000000):
  Eff sf 10 [.ptr (some (a,0)),.int .i64 d,.ptr (some (b,0)),.int .i64 u] h F a λv A'=>(isDoc A d∧B.has u∧(B.nd u).kind≠1∧v=tup (A.len+1) 0∧(∃c,c≤3*bN B u∧DupR A A' B u true c)∧Cpy A A' B (bD B u))∨(¬(isDoc A d∧B.has u∧(B.nd u).kind≠1)∧(∃e,v=tup 0 e)∧A'=A):=by
 obtain⟨n,m,ps,w',hF⟩:=w.pa_;have hkb:=lm.kids ok;have hv:IsInts [d] (.sl 1 [[.int .i64 d]]):= .inl rfl;obtain⟨t,r1⟩:=f562g w' lm hkb hv (by simp) (-1);have w1:=w.app (t:=t);have s1:Src (h++t) F a A b B:=s.next w .app (Int.le_refl _) λ_ _ _ _=>rfl;by_cases hk:A.has d
 ·rw[if_pos (okH1.2 hk)] at r1;obtain⟨t2,r2⟩:=s1.check (u:=u) w1 lm lb ok okB hB;have w2:=w1.app (t:=t2);have s2:Src (h++t++t2) F a A b B:=s1.next w1 .app (Int.le_refl _) λ_ _ _ _=>rfl;by_cases hu:B.has u
  ·rw[if_pos hu] at r2;obtain⟨n2,m2,ps2,w2',hF2⟩:=w2.pa_;obtain⟨t3,r3⟩:=f626 w2' lm hkb d;have w3:=w2.app (t:=t3);have s3:Src (h++t++t2++t3) F a A b B:=s2.next w2 .app (Int.le_refl _) λ_ _ _ _=>rfl;have x3:Ext h F (h++t++t2++t3) F:=(Ext.app.trans .app).trans .app;by_cases kd:(A.nd d).kind=1
   ·obtain⟨t4,r4⟩:=s3.kind w3 lm lb ok okB hu;have w4:=w3.app (t:=t4);have s4:Src (h++t++t2++t3++t4) F a A b B:=s3.next w3 .app (Int.le_refl _) λ_ _ _ _=>rfl;have x4:Ext h F (h++t++t2++t3++t4) F:=x3.trans .app;by_cases ku:(B.nd u).kind=1
    ·refine⟨tup 0 9,A,_,_,?_,w4,x4,.inr ⟨λh=>h.2.2 ku,⟨_,rfl⟩,rfl⟩⟩;rw[ret_iff,t10_eq,t10];simp only[amS,Nat.reduceLeDiff,↓reduceIte,bxS,em1,r1,ne_eq,eq_self,r2,r3,kd,r4,ku]
    ·have hb:=bN_le (B:=B) (u:=u);have hlen:B.len=B.n.length:=rfl;obtain⟨_,A2,h2,F2,r5,w5,x5,rfl,hdu,hcp⟩:=E627 okB lb w4 s4 lm ok cl ⟨hk,kd⟩ hu hsf (by omega) true;refine⟨tup (A.len+1) 0,A2,h2,F2,?_,w5,x4.trans x5,.inl ⟨⟨hk,kd⟩,hu,ku,rfl,hdu,hcp⟩⟩;rw[ret_iff,t10_eq,t10];simp only[amS,Nat.reduceLeDiff,↓reduceIte,bxS,em1,r1,ne_eq,eq_self,r2,r3,kd,r4,ku,r5]
   ·refine⟨tup 0 9,A,_,_,?_,w3,x3,.inr ⟨λh=>kd h.1.2,⟨_,rfl⟩,rfl⟩⟩;rw[ret_iff,t10_eq,t10];simp only[amS,Nat.reduceLeDiff,↓reduceIte,bxS,em1,r1,ne_eq,eq_self,r2,r3,kd]
  ·rw[if_neg hu] at r2;refine⟨tup 0 3,A,_,_,?_,w2,Ext.app.trans .app,.inr ⟨λh=>hu h.2.1,⟨_,rfl⟩,rfl⟩⟩;rw[ret_iff,t10_eq,t10];simp only[amS,Nat.reduceLeDiff,↓reduceIte,bxS,em1,r1,ne_eq,eq_self,r2,ieq]
 ·rw[if_neg (λh=>hk (okH1.1 h))] at r1;refine⟨tup 0 3,A,_,_,?_,w1,.app,.inr ⟨λh=>hk h.1.1,⟨_,rfl⟩,rfl⟩⟩;rw[ret_iff,t10_eq,t10];simp only[amS,Nat.reduceLeDiff,↓reduceIte,bxS,em1,r1,ne_eq,ieq]
end
end Go.Am
end
section
namespace Go.Am
open Go
set_option maxRecDepth 100000
structure LOp where
 kind:Int
 a:Int
 b:Int
 c:Int
 flag:Bool
 space:Int
 name:Bytes
 s:Bytes
 pub:Bytes
 attrs:List Attr
def LOp.row (o:LOp) (v:AVal):List AVal:=[.int .i64 o.kind,.int .i64 o.a,.int .i64 o.b,.int .i64 o.c,.bool o.flag,.int .i64 o.space,.str o.name,.str o.s,.str o.pub,v]
structure LOp.Ok (o:LOp):Prop where
 name:o.name.length≤400
 s:o.s.length≤400
 pub:o.pub.length≤400
 few:o.attrs.length≤20
 at_:∀y∈o.attrs,y.name.length≤400∧y.value.length≤400
section
variable {h h' h1:AHeap} {a b n k:Nat} {m:Option Nat} {ps:List PN} {A A' A1 A2 B:Ar} {x d u t sf:Int} {e:Int} {F F' F1:Nat→Prop} {r:Int→Nat} {l:List Int} {o:LOp} {v:AVal}
theorem leaf_ste {y:ANode} {r:AVal} (ok:ArOk A 0) (cl:Cl A) (g:Leaf A d y r A') (hy:NOk y) (hd:y.doc=d) (h1:y.par=0) (h2:y.kids=[]) (h3:y.cont=0) (h4:y.host=0) (k1:y.kind≠1) (k4:y.kind≠4) (hb:okN 20 y) (hs:y.data.length≤400):Ste A A' 4 400 1:=by
 rcases g with⟨hdoc,_,rfl⟩|⟨_,_,rfl⟩
 ·exact(Ste.add ok cl hy (.inr ⟨k1,by rw[hd];exact hdoc⟩) h1 h2 h3 h4 k4 hb).mono (by omega) hs (by omega)
 ·exact(Ste.refl ok cl).mono (by omega) (by omega) (by omega)
theorem Leaf.tup {y:ANode} {r:AVal} (g:Leaf A d y r A'):∃p q,r=tup p q:=by
 rcases g with⟨_,rfl,_⟩|⟨_,⟨e,_,rfl⟩,_⟩
 ·exact⟨_,_,rfl⟩
 ·exact⟨_,_,rfl⟩
theorem E643 (w:PW 0 h F a A) (ro:Roo A) (ok:ArOk A 0) (cl:Cl A) (hv:IsAttrs o.attrs v) (ho:o.Ok):Eff 0 66 [.ptr (some (a,0)),.agg (o.row v)] h F a λr A'=>(∃p q,r=tup p q)∧Ste A A' 4 400 1:=by
 have lm:=ro.lim;have hl:=ro.len;have same:Ste A A 4 400 1:=(Ste.refl ok cl).mono (by omega) (by omega) (by omega);unfold LOp.row;by_cases k1:o.kind=1
 ·obtain⟨_,A2,h2,F2,r2,w2,x2,rfl,rfl⟩:=E26 w lm (by omega) o.flag;refine⟨_,_,h2,F2,?_,w2,x2,⟨A.len+1,0,rfl⟩,(Ste.add ok cl (y:={kind:=1,quirks:=o.flag,doc:=A.len+1}) (by constructor<;>simp[once,onceF]) (.inl ⟨rfl,rfl⟩) rfl rfl rfl rfl (show(1:Int)≠4 by decide) ⟨Nat.zero_le _,λ_ h=>(by cases h),Nat.zero_le _,Nat.zero_le _,Nat.zero_le _⟩).mono (by omega) (Nat.zero_le _) (by omega)⟩;rw[ret_iff,t66_eq,t66];simp only[amS,Nat.reduceLeDiff,↓reduceIte,bxS,k1,eq_self,r2]
 by_cases k2:o.kind=2
 ·obtain⟨_,A2,h2,F2,r2,w2,x2,p2⟩:=E482 (d:=o.a) w lm (by omega) o.name o.s o.pub;obtain⟨p,q,rfl⟩:=p2.tup;refine⟨tup p q,_,h2,F2,?_,w2,x2,⟨_,_,rfl⟩,leaf_ste ok cl p2 (by constructor<;>simp[once,onceF]) rfl rfl rfl rfl rfl (show(3:Int)≠1 by decide) (show(3:Int)≠4 by decide) ⟨Nat.zero_le _,λ_ h=>(by cases h),ho.name,ho.s,ho.pub⟩ (Nat.zero_le _)⟩;rw[ret_iff,t66_eq,t66];simp only[amS,Nat.reduceLeDiff,↓reduceIte,bxS,k2,Int.reduceEq,eq_self,r2]
 by_cases k3:o.kind=3
 ·obtain⟨_,A2,h2,F2,r2,w2,x2,p2⟩:=E152 (d:=o.a) w lm (by omega) (attrs_in hv) (by have:=ho.few;omega) o.space o.name;rcases p2 with⟨hd,hs,hat,rfl,rfl⟩|⟨_,⟨e,_,rfl⟩,rfl⟩
  ·refine⟨tup (A.len+1) 0,_,h2,F2,?_,w2,x2,⟨_,_,rfl⟩,(Ste.elem ok cl hd hs hat ho.name ho.few ho.at_).mono (by omega) (by omega) (by omega)⟩;rw[ret_iff,t66_eq,t66];simp only[amS,Nat.reduceLeDiff,↓reduceIte,bxS,k3,Int.reduceEq,eq_self,r2]
  ·refine⟨tup 0 e,_,h2,F2,?_,w2,x2,⟨_,_,rfl⟩,same⟩;rw[ret_iff,t66_eq,t66];simp only[amS,Nat.reduceLeDiff,↓reduceIte,bxS,k3,Int.reduceEq,eq_self,r2]
 by_cases k4:o.kind=4
 ·obtain⟨_,A2,h2,F2,r2,w2,x2,p2⟩:=E37 (d:=o.a) w lm (by omega) o.s;obtain⟨p,q,rfl⟩:=p2.tup;refine⟨tup p q,_,h2,F2,?_,w2,x2,⟨_,_,rfl⟩,leaf_ste ok cl p2 (by constructor<;>simp[once,onceF]) rfl rfl rfl rfl rfl (show(5:Int)≠1 by decide) (show(5:Int)≠4 by decide) ⟨Nat.zero_le _,λ_ h=>(by cases h),Nat.zero_le _,Nat.zero_le _,Nat.zero_le _⟩ ho.s⟩;rw[ret_iff,t66_eq,t66];simp only[amS,Nat.reduceLeDiff,↓reduceIte,bxS,k4,Int.reduceEq,eq_self,r2]
 by_cases k5:o.kind=5
 ·obtain⟨_,A2,h2,F2,r2,w2,x2,p2⟩:=E135 (d:=o.a) w lm (by omega) o.s;obtain⟨p,q,rfl⟩:=p2.tup;refine⟨tup p q,_,h2,F2,?_,w2,x2,⟨_,_,rfl⟩,leaf_ste ok cl p2 (by constructor<;>simp[once,onceF]) rfl rfl rfl rfl rfl (show(6:Int)≠1 by decide) (show(6:Int)≠4 by decide) ⟨Nat.zero_le _,λ_ h=>(by cases h),Nat.zero_le _,Nat.zero_le _,Nat.zero_le _⟩ ho.s⟩;rw[ret_iff,t66_eq,t66];simp only[amS,Nat.reduceLeDiff,↓reduceIte,bxS,k5,Int.reduceEq,eq_self,r2]
 by_cases k6:o.kind=6
 ·obtain⟨_,A2,h2,F2,r2,w2,x2,p2⟩:=E644 (d:=o.a) w lm (by omega);obtain⟨p,q,rfl⟩:=p2.tup;refine⟨tup p q,_,h2,F2,?_,w2,x2,⟨_,_,rfl⟩,leaf_ste ok cl p2 (by constructor<;>simp[once,onceF]) rfl rfl rfl rfl rfl (show(2:Int)≠1 by decide) (show(2:Int)≠4 by decide) ⟨Nat.zero_le _,λ_ h=>(by cases h),Nat.zero_le _,Nat.zero_le _,Nat.zero_le _⟩ (Nat.zero_le _)⟩;rw[ret_iff,t66_eq,t66];simp only[amS,Nat.reduceLeDiff,↓reduceIte,bxS,k6,Int.reduceEq,eq_self,r2]
 by_cases k7:o.kind=7
 ·obtain⟨_,A2,h2,F2,r2,w2,x2,p2⟩:=E645 (d:=o.a) w lm (by omega);rcases p2 with⟨hd,rfl,rfl⟩|⟨_,⟨e,_,rfl⟩,rfl⟩
  ·refine⟨tup (A.inertH o.a) 0,_,h2,F2,?_,w2,x2,⟨_,_,rfl⟩,(Ste.inert ok cl hd.1).mono (by omega) (by omega) (by omega)⟩;rw[ret_iff,t66_eq,t66];simp only[amS,Nat.reduceLeDiff,↓reduceIte,bxS,k7,Int.reduceEq,eq_self,r2]
  ·refine⟨tup 0 e,_,h2,F2,?_,w2,x2,⟨_,_,rfl⟩,same⟩;rw[ret_iff,t66_eq,t66];simp only[amS,Nat.reduceLeDiff,↓reduceIte,bxS,k7,Int.reduceEq,eq_self,r2]
 by_cases k8:o.kind=8
 ·obtain⟨_,A2,h2,F2,r2,w2,x2,⟨e,rfl⟩,p2⟩:=E112 (p:=o.a) (x:=o.b) (b:=o.c) w lm ok λhp hx=>⟨by have:=hp.1;omega,cut_hard ok hx⟩;refine⟨tup 0 e,_,h2,F2,?_,w2,x2,⟨_,_,rfl⟩,?_⟩
  ·rw[ret_iff,t66_eq,t66];simp only[amS,Nat.reduceLeDiff,↓reduceIte,bxS,k8,Int.reduceEq,eq_self,r2]
  ·rw[p2];exact(Ste.of (.tput ok) (cl.of λ_=>tput_inr)).mono (by omega) (by omega) (by omega)
 by_cases k9:o.kind=9
 ·obtain⟨_,A2,h2,F2,r2,w2,x2,⟨e,rfl⟩,p2⟩:=E542 (x:=o.a) w lm ok (cut_hard ok);refine⟨tup 0 e,_,h2,F2,?_,w2,x2,⟨_,_,rfl⟩,?_⟩
  ·rw[ret_iff,t66_eq,t66];simp only[amS,Nat.reduceLeDiff,↓reduceIte,bxS,k9,Int.reduceEq,eq_self,r2]
  ·rcases p2 with⟨hx,rfl⟩|⟨_,rfl⟩
   ·exact(Ste.of (.cut' ok hx) (cl.of λ_=>inr_cut)).mono (by omega) (by omega) (by omega)
   ·exact same
 by_cases k10:o.kind=10
 ·obtain⟨_,A2,h2,F2,r2,w2,x2,⟨e,rfl⟩,p2⟩:=E36 (x:=o.a) w lm o.s;refine⟨tup 0 e,_,h2,F2,?_,w2,x2,⟨_,_,rfl⟩,?_⟩
  ·rw[ret_iff,t66_eq,t66];simp only[amS,Nat.reduceLeDiff,↓reduceIte,bxS,k10,Int.reduceEq,eq_self,r2]
  ·rcases p2 with⟨hx,hk,rfl⟩|rfl
   ·exact(Ste.data ok cl hx hk).mono (by omega) ho.s (by omega)
   ·exact same
 by_cases k11:o.kind=11
 ·obtain⟨_,A2,h2,F2,r2,w2,x2,⟨e,rfl⟩,p2⟩:=E143 (x:=o.a) w lm (attrs_in hv) (by have:=ho.few;omega);refine⟨tup 0 e,_,h2,F2,?_,w2,x2,⟨_,_,rfl⟩,?_⟩
  ·rw[ret_iff,t66_eq,t66];simp only[amS,Nat.reduceLeDiff,↓reduceIte,bxS,k11,Int.reduceEq,eq_self,r2]
  ·rcases p2 with⟨hx,hk,hsp,rfl⟩|rfl
   ·exact(Ste.attrs (db:=1) ok cl hx hk hsp λk h0 _=>⟨by have:=ho.few;omega,ho.at_⟩).mono (by omega) (by omega) (by omega)
   ·exact same
 by_cases k12:o.kind=12
 ·obtain⟨_,A2,h2,F2,r2,w2,x2,⟨e,rfl⟩,p2⟩:=E480 (d:=o.a) w lm o.flag;refine⟨tup 0 e,_,h2,F2,?_,w2,x2,⟨_,_,rfl⟩,?_⟩
  ·rw[ret_iff,t66_eq,t66];simp only[amS,Nat.reduceLeDiff,↓reduceIte,bxS,k12,Int.reduceEq,eq_self,r2]
  ·rcases p2 with⟨hd,rfl⟩|rfl
   ·exact(Ste.quirks ok cl hd.1 hd.2).mono (by omega) (by omega) (by omega)
   ·exact same
 by_cases k13:o.kind=13
 ·obtain⟨_,A2,h2,F2,r2,w2,x2,⟨e,rfl⟩,p2⟩:=E658 (x:=o.a) (d:=o.b) w lm;refine⟨tup 0 e,_,h2,F2,?_,w2,x2,⟨_,_,rfl⟩,?_⟩
  ·rw[ret_iff,t66_eq,t66];simp only[amS,Nat.reduceLeDiff,↓reduceIte,bxS,k13,Int.reduceEq,eq_self,r2]
  ·rcases p2 with⟨hx,hd,hk,rfl⟩|⟨_,rfl⟩
   ·exact(Ste.of (.doc ok hx hd hk) (cl.of λ_=>inr_set)).mono (by omega) (by omega) (by omega)
   ·exact same
 refine⟨tup 0 0,A,h,F,?_,w,.refl,⟨_,_,rfl⟩,same⟩;rw[ret_iff,t66_eq,t66];simp only[amS,Nat.reduceLeDiff,↓reduceIte,bxS,k1,k2,k3,k4,k5,k6,k7,k8,k9,k10,k11,k12,k13]
end
end Go.Am
end
section
namespace Go.Am
open Go
set_option maxRecDepth 100000
structure Cop (A A':Ar):Prop where
 ok:ArOk A' 0
 le:A.len≤A'.len
 up:A'.len≤4*A.len+3
 cp:Cpy A A' A (Wt A gS)
 gr:Grow A A'
def Stp (A A':Ar) (kind:Int):Prop:=Ste A A' 4 400 1∨(∃s,s≤Wt A gU∧Jns A A' s)∨((kind=31∨kind=32)∧Cop A A')
section
variable {h h' h1:AHeap} {a b n k:Nat} {m:Option Nat} {ps:List PN} {A A' A1 A2 B:Ar} {x d u t sf:Int} {e:Int} {F F' F1:Nat→Prop} {r:Int→Nat} {l:List Int} {o:LOp} {v:AVal}
theorem f641 (b:Bool):∃i:Int,PRet cx 63 [.bool b] (.int .i64 i):=by cases b<;>exact⟨_,by rw[wout,t63_eq,t63];simp only[amS,Nat.reduceLeDiff,↓reduceIte,bxS];rfl⟩
theorem Cop.of {c:Nat} {deep:Bool} (ok:ArOk A 0) (hc:c≤3*bN A u) (d:DupR A A' A u deep c) (g:Cpy A A' A (bD A u)):Cop A A':=by have h1:=bN_le (B:=A) (u:=u);have h2:=d.le;have h3:=d.gr.len;have hlen:A.len=A.n.length:=rfl;exact⟨d.ok,h3,by omega,g.mono bD_le,d.gr⟩
theorem E625 (w:PW 0 h F a A) (ro:Roo A) (ok:ArOk A 0) (cl:Cl A) (hS:Wt A gS+2*Wt A gU≤19000000000000) (hn:A.len≤200000000) (hv:IsAttrs o.attrs v) (ho:o.Ok):Eff 0 22 [.ptr (some (a,0)),.agg (o.row v)] h F a λr A'=>(∃p q,r=tup p q)∧Stp A A' o.kind:=by
 have lm:=ro.lim;have hl:=ro.len;have same:Ste A A 4 400 1:=(Ste.refl ok cl).mono (by omega) (by omega) (by omega);by_cases k21:o.kind=21
 ·obtain⟨_,A2,h2,F2,r2,w2,x2,⟨e,rfl⟩,p2⟩:=E632 (p:=o.a) (x:=o.b) (c:=o.c) w lm ok cl (by omega);refine⟨tup 0 e,_,h2,F2,?_,w2,x2,⟨_,_,rfl⟩,.inl ((Ste.of p2.1 p2.2).mono (by omega) (by omega) (by omega))⟩;rw[ret_iff,t22_eq,t22,LOp.row];simp only[amS,Nat.reduceLeDiff,↓reduceIte,bxS,k21,Int.reduceEq,eq_self,r2]
 by_cases k22:o.kind=22
 ·obtain⟨_,A2,h2,F2,r2,w2,x2,⟨e,rfl⟩,p2⟩:=E623 (p:=o.a) (x:=o.b) w lm ok cl (by omega);refine⟨tup 0 e,_,h2,F2,?_,w2,x2,⟨_,_,rfl⟩,.inl ((Ste.of p2.1 p2.2).mono (by omega) (by omega) (by omega))⟩;rw[ret_iff,t22_eq,t22,LOp.row];simp only[amS,Nat.reduceLeDiff,↓reduceIte,bxS,k22,Int.reduceEq,eq_self,r2]
 by_cases k23:o.kind=23
 ·obtain⟨_,A2,h2,F2,r2,w2,x2,⟨e,rfl⟩,p2⟩:=E634 (p:=o.a) (x:=o.b) (c:=o.c) w lm ok cl (by omega);refine⟨tup 0 e,_,h2,F2,?_,w2,x2,⟨_,_,rfl⟩,.inl ((Ste.of p2.1 p2.2).mono (by omega) (by omega) (by omega))⟩;rw[ret_iff,t22_eq,t22,LOp.row];simp only[amS,Nat.reduceLeDiff,↓reduceIte,bxS,k23,Int.reduceEq,eq_self,r2]
 by_cases k24:o.kind=24
 ·obtain⟨_,A2,h2,F2,r2,w2,x2,⟨e,rfl⟩,p2⟩:=E635 (p:=o.a) (x:=o.b) w lm ok cl;refine⟨tup 0 e,_,h2,F2,?_,w2,x2,⟨_,_,rfl⟩,.inl ((Ste.of p2.1 p2.2).mono (by omega) (by omega) (by omega))⟩;rw[ret_iff,t22_eq,t22,LOp.row];simp only[amS,Nat.reduceLeDiff,↓reduceIte,bxS,k24,Int.reduceEq,eq_self,r2]
 by_cases k25:o.kind=25
 ·obtain⟨_,A2,h2,F2,r2,w2,x2,⟨e,rfl⟩,p2⟩:=E636 (x:=o.a) w lm ok cl;refine⟨tup 0 e,_,h2,F2,?_,w2,x2,⟨_,_,rfl⟩,.inl ((Ste.of p2.1 p2.2).mono (by omega) (by omega) (by omega))⟩;rw[ret_iff,t22_eq,t22,LOp.row];simp only[amS,Nat.reduceLeDiff,↓reduceIte,bxS,k25,Int.reduceEq,eq_self,r2]
 by_cases k26:o.kind=26
 ·obtain⟨_,A2,h2,F2,r2,w2,x2,⟨e,rfl⟩,p2⟩:=E637 (p:=o.a) (x:=o.b) w lm ok cl (by omega);refine⟨tup 0 e,_,h2,F2,?_,w2,x2,⟨_,_,rfl⟩,.inl ((Ste.of p2.1 p2.2).mono (by omega) (by omega) (by omega))⟩;rw[ret_iff,t22_eq,t22,LOp.row];simp only[amS,Nat.reduceLeDiff,↓reduceIte,bxS,k26,Int.reduceEq,eq_self,r2]
 by_cases k27:o.kind=27
 ·obtain⟨_,A2,h2,F2,r2,w2,x2,⟨e,rfl⟩,p2⟩:=E638 (x:=o.a) (d:=o.b) w lm ok cl (by omega);refine⟨tup 0 e,_,h2,F2,?_,w2,x2,⟨_,_,rfl⟩,.inl ((Ste.of p2.1 p2.2).mono (by omega) (by omega) (by omega))⟩;rw[ret_iff,t22_eq,t22,LOp.row];simp only[amS,Nat.reduceLeDiff,↓reduceIte,bxS,k27,Int.reduceEq,eq_self,r2]
 by_cases k29:o.kind=29
 ·obtain⟨_,A2,h2,F2,r2,w2,x2,⟨e,rfl⟩,p2⟩:=E639 (x:=o.a) (s':=o.s) w ro ok cl o.space ho.name ho.s;refine⟨tup 0 e,_,h2,F2,?_,w2,x2,⟨_,_,rfl⟩,.inl (p2.mono (by omega) (by omega) (by omega))⟩;rw[ret_iff,t22_eq,t22,LOp.row];simp only[amS,Nat.reduceLeDiff,↓reduceIte,bxS,k29,Int.reduceEq,eq_self,r2]
 by_cases k33:o.kind=33
 ·obtain⟨_,A2,h2,F2,r2,w2,x2,⟨e,rfl⟩,p2⟩:=E624 (x:=o.a) w ro ok cl ho.s;refine⟨tup 0 e,_,h2,F2,?_,w2,x2,⟨_,_,rfl⟩,.inl (p2.mono (by omega) (by omega) (by omega))⟩;rw[ret_iff,t22_eq,t22,LOp.row];simp only[amS,Nat.reduceLeDiff,↓reduceIte,bxS,k33,Int.reduceEq,eq_self,r2]
 by_cases k34:o.kind=34
 ·obtain⟨_,A2,h2,F2,r2,w2,x2,⟨e,rfl⟩,p2⟩:=E559 (x:=o.a) w ok cl ro.n (ro.bn.mono (by omega)) hS;refine⟨tup 0 e,_,h2,F2,?_,w2,x2,⟨_,_,rfl⟩,.inr (.inl p2)⟩;rw[ret_iff,t22_eq,t22,LOp.row];simp only[amS,Nat.reduceLeDiff,↓reduceIte,bxS,k34,Int.reduceEq,eq_self,r2]
 by_cases k28:o.kind=28
 ·obtain⟨_,A2,h2,F2,r2,w2,x2,⟨p,q,rfl⟩,p2⟩:=E622 (d:=o.a) w ro ok cl ho.name;refine⟨tup p q,_,h2,F2,?_,w2,x2,⟨_,_,rfl⟩,.inl (p2.mono (by omega) (by omega) (by omega))⟩;rw[ret_iff,t22_eq,t22,LOp.row];simp only[amS,Nat.reduceLeDiff,↓reduceIte,bxS,k28,Int.reduceEq,eq_self,r2]
 by_cases k35:o.kind=35
 ·obtain⟨_,A2,h2,F2,r2,w2,x2,⟨p,q,rfl⟩,p2⟩:=E642 (x:=o.a) w ro ok cl o.b;refine⟨tup p q,_,h2,F2,?_,w2,x2,⟨_,_,rfl⟩,.inl (p2.mono (by omega) (by omega) (by omega))⟩;rw[ret_iff,t22_eq,t22,LOp.row];simp only[amS,Nat.reduceLeDiff,↓reduceIte,bxS,k35,Int.reduceEq,eq_self,r2]
 by_cases k30:o.kind=30
 ·obtain⟨_,A2,h2,F2,r2,w2,x2,⟨p,q,rfl⟩,p2⟩:=E640 (x:=o.a) w ro ok cl o.space ho.name;obtain⟨i,r3⟩:=f641 p;refine⟨tup i q,_,h2,F2,?_,w2,x2,⟨_,_,rfl⟩,.inl (p2.mono (by omega) (by omega) (by omega))⟩;rw[ret_iff,t22_eq,t22,LOp.row];simp only[amS,Nat.reduceLeDiff,↓reduceIte,bxS,k30,Int.reduceEq,eq_self,r2,r3.pcall rfl rfl]
 by_cases k31:o.kind=31
 ·obtain⟨_,A2,h2,F2,r2,w2,x2,p2⟩:=E619 (x:=o.a) w lm ok cl (by unfold Ar.len;omega) (by omega) o.flag;rcases p2 with⟨hx,rfl,⟨c,hc,hd⟩,hcp⟩|⟨_,⟨e,rfl⟩,rfl⟩
  ·refine⟨tup (A.len+1) 0,_,h2,F2,?_,w2,x2,⟨_,_,rfl⟩,.inr (.inr ⟨.inl k31,.of ok hc hd hcp⟩)⟩;rw[ret_iff,t22_eq,t22,LOp.row];simp only[amS,Nat.reduceLeDiff,↓reduceIte,bxS,k31,Int.reduceEq,eq_self,r2]
  ·refine⟨tup 0 e,_,h2,F2,?_,w2,x2,⟨_,_,rfl⟩,.inl same⟩;rw[ret_iff,t22_eq,t22,LOp.row];simp only[amS,Nat.reduceLeDiff,↓reduceIte,bxS,k31,Int.reduceEq,eq_self,r2]
 by_cases k32:o.kind=32
 ·obtain⟨_,A2,h2,F2,r2,w2,x2,p2⟩:=E617 (d:=o.a) (u:=o.b) (b:=a) ok lm w (.inl ⟨rfl,Int.le_refl _,λ_ _=>rfl⟩) lm ok cl (by unfold Ar.len;omega) (λ_=>Iff.rfl) (by omega);rcases p2 with⟨_,hx,_,rfl,⟨c,hc,hd⟩,hcp⟩|⟨_,⟨e,rfl⟩,rfl⟩
  ·refine⟨tup (A.len+1) 0,_,h2,F2,?_,w2,x2,⟨_,_,rfl⟩,.inr (.inr ⟨.inr k32,.of ok hc hd hcp⟩)⟩;rw[ret_iff,t22_eq,t22,LOp.row];simp only[amS,Nat.reduceLeDiff,↓reduceIte,bxS,k32,Int.reduceEq,eq_self,r2]
  ·refine⟨tup 0 e,_,h2,F2,?_,w2,x2,⟨_,_,rfl⟩,.inl same⟩;rw[ret_iff,t22_eq,t22,LOp.row];simp only[amS,Nat.reduceLeDiff,↓reduceIte,bxS,k32,Int.reduceEq,eq_self,r2]
 obtain⟨_,A2,h2,F2,r2,w2,x2,⟨p,q,rfl⟩,p2⟩:=E643 w ro ok cl hv ho;refine⟨tup p q,_,h2,F2,?_,w2,x2,⟨_,_,rfl⟩,.inl p2⟩;rw[LOp.row] at r2;rw[ret_iff,t22_eq,t22,LOp.row];simp only[amS,Nat.reduceLeDiff,↓reduceIte,bxS,k21,k22,k23,k24,k25,k26,k27,k28,k29,k30,k31,k32,k33,k34,k35,r2]
end
end Go.Am
end
section
namespace Go.Am
open Go
set_option maxRecDepth 100000
section
variable {A A':Ar} {g:ANode→Nat}
theorem grow_list (h:Grow A A'):∃L,A'.n=A.n++L:=by
 refine⟨A'.n.drop A.n.length,?_⟩;have hl:A.n.length≤A'.n.length:=by have:=h.len;unfold Ar.len at this;omega
 have e:A'.n.take A.n.length=A.n:=by
  apply List.ext_getElem
  ·rw[List.length_take];omega
  ·intro i h1 h2;have hh:A.has ((i:Int)+1):=by unfold Ar.has;omega
   have hh':=h.has hh;have e1:=(nd_get hh).2 (by have:=(nd_get hh).1;exact this);have e2:=(nd_get hh').2 (by have:=(nd_get hh').1;exact this);have e3:=h.nd' hh;have ei:((i:Int)+1).toNat-1=i:=by omega
   simp only[ei] at e1 e2;rw[List.getElem_take,←e2,e3,e1]
 calc A'.n=A'.n.take A.n.length++A'.n.drop A.n.length:=(List.take_append_drop _ _).symm
  _=A.n++A'.n.drop A.n.length:=by rw[e]
theorem grow_U (h:Grow A A'):Wt A' gU+Wt A gS≤Wt A gU+Wt A' gS:=by
 obtain⟨L,e⟩:=grow_list h;have h1:Wt A' gU=Wt A gU+(L.map gU).sum:=by unfold Wt;rw[e,List.map_append,List.sum_append]
 have h2:Wt A' gS=Wt A gS+(L.map gS).sum:=by unfold Wt;rw[e,List.map_append,List.sum_append]
 have h3:(L.map gU).sum≤(L.map gS).sum:=sum_le λx=>by unfold gU gS;split<;>omega
 omega
def phi:Nat→Nat
 |0=>0
 |q+1=>(16181*phi q+6472000000)/10000+1
theorem phi_next (q:Nat):16181*phi q+6472000000≤10000*phi (q+1):=by show _≤10000*((16181*phi q+6472000000)/10000+1);omega
theorem phi_up {p:Nat}:∀{q:Nat},p≤q→phi p≤phi q
 |0,h=>by
  obtain rfl:p=0:=by omega
  exact Nat.le_refl _
 |q+1,h=>by
  by_cases hp:p=q+1
  ·rw[hp];exact Nat.le_refl _
  ·have:=phi_up (p:=p) (q:=q) (by omega);have:=phi_next q;omega
theorem phi48:phi 48≤12000000000000000:=by decide+kernel
theorem phi47:phi 47≤7400000000000000:=by decide+kernel
end
end Go.Am
end
section
namespace Go.Am
open Go
set_option maxRecDepth 100000
structure AInv (k c:Nat) (A:Ar):Prop where
 ok:ArOk A 0
 cl:Cl A
 n:A.n.length+1≤4^c*(4*k+4)
 P:1000*Wt A gS+618*Wt A gU≤phi (k+2*c)
 bn:Bnd A (20+k)
section
variable {A A':Ar} {k c:Nat} {q:Int}
theorem AInv.few (i:AInv k c A) (hk:k+c≤40) (hc:c≤8):A.n.length≤8650751:=by
 have h1:=i.n;by_cases h8:c=8
 ·subst h8;have h2:4^8*(4*k+4)≤65536*132:=Nat.mul_le_mul (by decide) (by omega);omega
 ·have h3:4^c≤4^7:=Nat.pow_le_pow_right (by omega) (by omega);have h2:4^c*(4*k+4)≤16384*164:=Nat.mul_le_mul (by simpa using h3) (by omega);omega
theorem AInv.len (i:AInv k c A) (hk:k+c≤40) (hc:c≤8):A.len≤20000000:=by have h1:=i.few hk hc;unfold Ar.len;omega
theorem AInv.S (i:AInv k c A) (hk:k+c≤40) (hc:c≤8):Wt A gS≤12000000000000:=by have:=i.P;have:=phi_up (show k+2*c≤48 by omega);have:=phi48;omega
theorem AInv.roo (i:AInv k c A) (hk:k+c≤40) (hc:c≤8):Roo A:=by have h1:=i.len hk hc;have h2:=i.S hk hc;refine⟨by unfold Ar.len at h1;omega,by omega,i.bn.mono (by omega)⟩
theorem AInv.norm (i:AInv k c A) (hk:k+c≤39) (hc:c≤8):Wt A gS+2*Wt A gU≤19000000000000:=by have:=i.P;have:=phi_up (show k+2*c≤47 by omega);have:=phi47;have:=U_le (A:=A);omega
theorem AInv.ste (i:AInv k c A) (g:Ste A A' 4 400 1):AInv (k+1) c A':=by
 refine⟨g.ok,g.cl,?_,?_,(g.bn (20+k) (by omega) i.bn).mono (by omega)⟩
 ·have h1:=i.n;have h2:=g.up;have h3:1≤4^c:=Nat.one_le_pow _ _ (by omega);have h4:4^c*(4*(k+1)+4)=4^c*(4*k+4)+4^c*4:=by rw[←Nat.mul_add];congr 1
  unfold Ar.len at h2;omega
 ·have h1:=i.P;have h2:=g.S;have h3:=U_le (A:=A');have h4:=phi_next (k+2*c);rw[show k+1+2*c=k+2*c+1 by omega];omega
theorem AInv.jns {s:Nat} (i:AInv k c A) (hs:s≤Wt A gU) (g:Jns A A' s):AInv (k+1) c A':=by
 refine⟨g.ok,i.cl.of g.inr,?_,?_,(g.bnd i.bn).mono (by omega)⟩
 ·have h1:=i.n;have h2:=g.len;have h4:4^c*(4*(k+1)+4)=4^c*(4*k+4)+4^c*4:=by rw[←Nat.mul_add];congr 1
  unfold Ar.len at h2;omega
 ·have h1:=i.P;have h2:=g.S;have h3:=U_le (A:=A);have h4:=phi_next (k+2*c);have h5:=g.U;rw[show k+1+2*c=k+2*c+1 by omega];omega
theorem AInv.cop (i:AInv k c A) (g:Cop A A'):AInv k (c+1) A':=by
 refine⟨g.ok,g.cp.cl,?_,?_,g.cp.bnd i.bn i.bn⟩
 ·have h1:=i.n;have h2:=g.up;have h4:4^(c+1)*(4*k+4)=4*(4^c*(4*k+4)):=by rw[Nat.pow_succ,Nat.mul_right_comm,Nat.mul_comm _ 4]
  unfold Ar.len at h2;omega
 ·have h1:=i.P;have h2:=g.cp.S;have h3:=U_le (A:=A);have h4:=phi_next (k+2*c);have h5:=phi_next (k+2*c+1);have h6:=grow_U g.gr;rw[show k+2*(c+1)=k+2*c+1+1 by omega];omega
theorem AInv.stp (i:AInv k c A) (g:Stp A A' q):AInv (k+1) c A'∨((q=31∨q=32)∧AInv k (c+1) A'):=by
 rcases g with g|⟨s,hs,g⟩|⟨hq,g⟩
 ·exact .inl (i.ste g)
 ·exact .inl (i.jns hs g)
 ·exact .inr ⟨hq,i.cop g⟩
end
end Go.Am
end
section
namespace Go.Am
open Go
set_option maxRecDepth 100000
def NA (h:AHeap) (a:Nat):Prop:=h[a]?=some (.cells [.slnil,.map none])
section
variable {h h':AHeap} {a:Nat} {x y z d:Int} {o:LOp} {v:AVal} {l:List Int}
theorem NA.load (na:NA h a):hload h none (.ptr (some (a,0)))=some .slnil:=by simp only[hload,show h[a]?=_ from na];rfl
theorem NA.app {t:AHeap} (na:NA h a):NA (h++t) a:=(List.getElem?_append_left (List.getElem?_eq_some_iff.1 na).1).trans na
theorem n46 (na:NA h a) (x:Int):Ret cx 32 [.ptr (some (a,0)),.int .i64 x] h (.bool false) h:=by
 rw[ret_iff,t32_eq,t32];simp only[amS,bxS,na.load,show peval (.len false) [.slnil]=some (I 0) from rfl];refine⟨λh1=>?_,λ_=>trivial⟩
 congr 2
 rw[decide_eq_false];omega
theorem n107 (na:NA h a) (hv:IsInts (x::l) v):Ret cx 23 [.ptr (some (a,0)),v] h (I 3) h:=by
 have hv:IsSl 1 ((x::l).map intRow) v:=hv;rw[ret_iff,t23_eq,t23];simp only[amS,bxS,hv.lenM];refine W_loop_st (λk:Nat=>[.int .i64 0,.int .i64 (k:Int)]) (λk h1=>k=0∧h1=h) (λk=>0) 0 rfl ⟨rfl,rfl⟩ ?_;rintro k h1 ⟨rfl,rfl⟩;have hlt:0<(x::l).length:=Nat.succ_pos _;have i1:((0:Nat):Int)<((l.length+1:Nat):Int):=by omega
 have e1:hload h1 none (.rptr (intRow (x::l)[0]))=some (.int .i64 x):=rfl;simp only[amS,bxS,i1,hv.eaddrM hlt,e1,n46 na x]
theorem n107_1 (na:NA h a) (x:Int):Ret cx 23 [.ptr (some (a,0)),.sl 1 [[.int .i64 x]]] h (I 3) h:=n107 (l:=[]) na .mk
theorem n107_2 (na:NA h a) (x y:Int):Ret cx 23 [.ptr (some (a,0)),.sl 1 [[.int .i64 x],[.int .i64 y]]] h (I 3) h:=n107 (l:=[y]) na .mk
theorem n97 (na:NA h a) (x:Int):∃r,Ret cx 7 [.ptr (some (a,0)),.int .i64 x] h (.tuple [.agg r,I 3]) h∧r.length=13:=by refine⟨[I 0,I 0,.slnil,I 0,I 0,S [],.slnil,S [],S [],S [],ff,I 0,I 0],?_,rfl⟩;rw[ret_iff,t7_eq,t7];simp only[amS,Nat.reduceLeDiff,↓reduceIte,fillAt,bxS,pe_mksl_i,n107_1 na x,ne_eq,ieq]
theorem n194 (na:NA h a) (d:Int):Ret cx 44 [.ptr (some (a,0)),.int .i64 d] h (I 3) h:=by rw[ret_iff,t44_eq,t44];simp only[amS,bxS,pe_mksl_i,n107_1 na d,ne_eq,ieq]
theorem n108 (na:NA h a) (d:Int) {c0 c1 c2 c3 c4 c5 c6 c7 c8 c9 c10 c11 c12:AVal}:Ret cx 98 [.ptr (some (a,0)),.int .i64 d,.agg [c0,c1,c2,c3,c4,c5,c6,c7,c8,c9,c10,c11,c12]] h (tup 0 3) h:=by rw[ret_iff,t98_eq,t98];simp only[amS,bxS,n194 na d,ne_eq,ieq]
theorem n562 (na:NA h a) (hv:IsInts (x::l) v) {p:Int} (hp:p≠0):Ret cx 27 [.ptr (some (a,0)),.int .i64 p,v] h (I 3) h:=by
 obtain⟨r,r5,hr⟩:=n97 na x;rw[ret_iff,t27_eq,t27];have lk:=IsSl.lenM hv;simp only[amS,bxS,lk];refine W_loop_st (λk:Nat=>[I 0,.int .i64 (k:Int)]) (λk h1=>k=0∧h1=h) (λk=>0) 0 rfl ⟨rfl,rfl⟩ ?_;rintro k h1 ⟨rfl,rfl⟩;have hlt:0<(x::l).length:=Nat.succ_pos _;have i1:((0:Nat):Int)<((l.length+1:Nat):Int):=by omega
 obtain⟨q,e1,e2⟩:=(IsInts.ints (h:=h1) hv).at_ 0 hlt;rw[show(x::l)[0]=x from rfl] at e2;have h0:¬((0:Nat):Int)=p:=λe=>hp e.symm;by_cases hx:x=0
 ·subst hx;simp only[amS,bxS,i1,e1,e2,h0,r5,hr,ne_eq,ieq,eq_self]
 ·simp only[amS,bxS,i1,e1,e2,hx,h0,r5,hr,ne_eq,ieq,eq_self]
theorem n482 (na:NA h a) (d:Int) (s1:Bytes) (s2:Bytes) (s3:Bytes):Ret cx 70 [.ptr (some (a,0)),.int .i64 d,.str s1,.str s2,.str s3] h (tup 0 3) h:=by rw[ret_iff,t70_eq,t70];simp only[amS,Nat.reduceLeDiff,↓reduceIte,fillAt,bxS,n108 na d]
theorem n37 (na:NA h a) (d:Int) (s1:Bytes):Ret cx 54 [.ptr (some (a,0)),.int .i64 d,.str s1] h (tup 0 3) h:=by rw[ret_iff,t54_eq,t54];simp only[amS,Nat.reduceLeDiff,↓reduceIte,fillAt,bxS,n108 na d]
theorem n135 (na:NA h a) (d:Int) (s1:Bytes):Ret cx 71 [.ptr (some (a,0)),.int .i64 d,.str s1] h (tup 0 3) h:=by rw[ret_iff,t71_eq,t71];simp only[amS,Nat.reduceLeDiff,↓reduceIte,fillAt,bxS,n108 na d]
theorem n644 (na:NA h a) (d:Int):Ret cx 69 [.ptr (some (a,0)),.int .i64 d] h (tup 0 3) h:=by rw[ret_iff,t69_eq,t69];simp only[amS,Nat.reduceLeDiff,↓reduceIte,fillAt,bxS,n108 na d]
theorem n152 (na:NA h a) (d:Int) (p:Int) (s1:Bytes) (w:AVal):Ret cx 18 [.ptr (some (a,0)),.int .i64 d,.int .i64 p,.str s1,w] h (tup 0 3) h:=by rw[ret_iff,t18_eq,t18];simp only[amS,Nat.reduceLeDiff,↓reduceIte,fillAt,bxS,n194 na d,ne_eq,ieq]
theorem n645 (na:NA h a) (d:Int):Ret cx 72 [.ptr (some (a,0)),.int .i64 d] h (tup 0 3) h:=by rw[ret_iff,t72_eq,t72];simp only[amS,Nat.reduceLeDiff,↓reduceIte,fillAt,bxS,n194 na d,ne_eq,ieq]
theorem n112 (na:NA h a) (x:Int) (y:Int) (z:Int):Ret cx 55 [.ptr (some (a,0)),.int .i64 x,.int .i64 y,.int .i64 z] h (I 3) h:=by rw[ret_iff,t55_eq,t55];simp only[amS,Nat.reduceLeDiff,↓reduceIte,fillAt,bxS,pe_mksl_ii,n107_2 na x y,ne_eq,ieq]
theorem n542 (na:NA h a) (x:Int):Ret cx 97 [.ptr (some (a,0)),.int .i64 x] h (I 3) h:=by rw[ret_iff,t97_eq,t97];simp only[amS,Nat.reduceLeDiff,↓reduceIte,fillAt,bxS,pe_mksl_i,n107_1 na x,ne_eq,ieq]
theorem n36 (na:NA h a) (x:Int) (s1:Bytes):Ret cx 52 [.ptr (some (a,0)),.int .i64 x,.str s1] h (I 3) h:=by rw[ret_iff,t52_eq,t52];simp only[amS,Nat.reduceLeDiff,↓reduceIte,fillAt,bxS,pe_mksl_i,n107_1 na x,ne_eq,ieq]
theorem n143 (na:NA h a) (x:Int) (w:AVal):Ret cx 108 [.ptr (some (a,0)),.int .i64 x,w] h (I 3) h:=by rw[ret_iff,t108_eq,t108];simp only[amS,Nat.reduceLeDiff,↓reduceIte,fillAt,bxS,pe_mksl_i,n107_1 na x,ne_eq,ieq]
theorem n480 (na:NA h a) (d:Int) (q:Bool):Ret cx 112 [.ptr (some (a,0)),.int .i64 d,.bool q] h (I 3) h:=by rw[ret_iff,t112_eq,t112];simp only[amS,Nat.reduceLeDiff,↓reduceIte,fillAt,bxS,n194 na d,ne_eq,ieq]
theorem n658 (na:NA h a) (x:Int) (y:Int):Ret cx 113 [.ptr (some (a,0)),.int .i64 x,.int .i64 y] h (I 3) h:=by rw[ret_iff,t113_eq,t113];simp only[amS,Nat.reduceLeDiff,↓reduceIte,fillAt,bxS,pe_mksl_ii,n107_2 na x y,ne_eq,ieq]
theorem pe_mksl_iii {x y z:Int}:peval (.mksl 1) [.int .i64 x,.int .i64 y,.int .i64 z]=some (.sl 1 [[.int .i64 x],[.int .i64 y],[.int .i64 z]]):=rfl
theorem m1_ (x:Int):IsInts [x] (.sl 1 [[.int .i64 x]]):= .inl rfl
theorem m2_ (x y:Int):IsInts [x,y] (.sl 1 [[.int .i64 x],[.int .i64 y]]):= .inl rfl
theorem m3_ (x y z:Int):IsInts [x,y,z] (.sl 1 [[.int .i64 x],[.int .i64 y],[.int .i64 z]]):= .inl rfl
theorem k1_ (na:NA h a) (x:Int):Ret cx 27 [.ptr (some (a,0)),I (-1),.sl 1 [[.int .i64 x]]] h (I 3) h:=n562 na (m1_ x) (by decide)
theorem k2_ (na:NA h a) (x y:Int):Ret cx 27 [.ptr (some (a,0)),I (-1),.sl 1 [[.int .i64 x],[.int .i64 y]]] h (I 3) h:=n562 na (m2_ x y) (by decide)
theorem k3_ (na:NA h a) (x y z:Int) {p:Int} (hp:p≠0):Ret cx 27 [.ptr (some (a,0)),.int .i64 p,.sl 1 [[.int .i64 x],[.int .i64 y],[.int .i64 z]]] h (I 3) h:=n562 na (m3_ x y z) hp
theorem k4_ (na:NA h a) (x y:Int):Ret cx 27 [.ptr (some (a,0)),I 1,.sl 1 [[.int .i64 x],[.int .i64 y]]] h (I 3) h:=n562 na (m2_ x y) (by decide)
theorem n650 (na:NA h a) (x:Int) (y:Int) (z:Int):Ret cx 94 [.ptr (some (a,0)),.int .i64 x,.int .i64 y,.int .i64 z] h (I 3) h:=by rw[ret_iff,t94_eq,t94];simp only[amS,Nat.reduceLeDiff,↓reduceIte,bxS,pe_mksl_iii,k3_ na x y z (p:=2) (by decide),ne_eq,ieq]
theorem n632 (na:NA h a) (x:Int) (y:Int) (z:Int):Ret cx 51 [.ptr (some (a,0)),.int .i64 x,.int .i64 y,.int .i64 z] h (I 3) h:=by rw[ret_iff,t51_eq,t51];simp only[amS,Nat.reduceLeDiff,↓reduceIte,bxS,n650 na x y z,ne_eq,ieq]
theorem n623 (na:NA h a) (x:Int) (y:Int):Ret cx 20 [.ptr (some (a,0)),.int .i64 x,.int .i64 y] h (I 3) h:=by rw[ret_iff,t20_eq,t20];simp only[amS,Nat.reduceLeDiff,↓reduceIte,bxS,n632 na x y 0,ne_eq,ieq]
theorem n634 (na:NA h a) (x:Int) (y:Int) (z:Int):Ret cx 56 [.ptr (some (a,0)),.int .i64 x,.int .i64 y,.int .i64 z] h (I 3) h:=by rw[ret_iff,t56_eq,t56];simp only[amS,Nat.reduceLeDiff,↓reduceIte,bxS,em1,pe_mksl_iii,k3_ na x y z (p:= -1) (by decide),ne_eq,ieq]
theorem n635 (na:NA h a) (x:Int) (y:Int):Ret cx 57 [.ptr (some (a,0)),.int .i64 x,.int .i64 y] h (I 3) h:=by rw[ret_iff,t57_eq,t57];simp only[amS,Nat.reduceLeDiff,↓reduceIte,bxS,em1,pe_mksl_ii,k2_ na x y,ne_eq,ieq]
theorem n636 (na:NA h a) (x:Int):Ret cx 58 [.ptr (some (a,0)),.int .i64 x] h (I 3) h:=by rw[ret_iff,t58_eq,t58];simp only[amS,Nat.reduceLeDiff,↓reduceIte,bxS,em1,k1_ na x,ne_eq,ieq]
theorem n637 (na:NA h a) (x:Int) (y:Int):Ret cx 59 [.ptr (some (a,0)),.int .i64 x,.int .i64 y] h (I 3) h:=by rw[ret_iff,t59_eq,t59];simp only[amS,Nat.reduceLeDiff,↓reduceIte,bxS,pe_mksl_ii,k4_ na x y,ne_eq,ieq]
theorem n638 (na:NA h a) (x:Int) (y:Int):Ret cx 60 [.ptr (some (a,0)),.int .i64 x,.int .i64 y] h (I 3) h:=by rw[ret_iff,t60_eq,t60];simp only[amS,Nat.reduceLeDiff,↓reduceIte,bxS,em1,pe_mksl_ii,k2_ na x y,ne_eq,ieq]
theorem n624 (na:NA h a) (x:Int) (s1:Bytes):Ret cx 21 [.ptr (some (a,0)),.int .i64 x,.str s1] h (I 3) h:=by rw[ret_iff,t21_eq,t21];simp only[amS,Nat.reduceLeDiff,↓reduceIte,bxS,em1,k1_ na x,ne_eq,ieq]
theorem n622 (na:NA h a) (d:Int) (s1:Bytes):Ret cx 19 [.ptr (some (a,0)),.int .i64 d,.str s1] h (tup 0 3) h:=by rw[ret_iff,t19_eq,t19];simp only[amS,Nat.reduceLeDiff,↓reduceIte,bxS,em1,k1_ na d,ne_eq,ieq]
theorem n642 (na:NA h a) (x:Int) (y:Int):Ret cx 65 [.ptr (some (a,0)),.int .i64 x,.int .i64 y] h (tup 0 3) h:=by rw[ret_iff,t65_eq,t65];simp only[amS,Nat.reduceLeDiff,↓reduceIte,bxS,em1,k1_ na x,ne_eq,ieq]
theorem n619 (na:NA h a) (x:Int) (q:Bool):Ret cx 12 [.ptr (some (a,0)),.int .i64 x,.bool q] h (tup 0 3) h:=by rw[ret_iff,t12_eq,t12];simp only[amS,Nat.reduceLeDiff,↓reduceIte,bxS,em1,k1_ na x,ne_eq,ieq]
theorem n559 (na:NA h a) (x:Int):Ret cx 64 [.ptr (some (a,0)),.int .i64 x] h (I 3) h:=by rw[ret_iff];show W cx (pNormalize 27 110 [.ptr (some (a,0)),.int .i64 x]) _ _;unfold pNormalize;simp only[amS,bxS,em1,k1_ na x,ne_eq,ieq]
theorem n617 (na:NA h a) (x y:Int):Ret cx 10 [.ptr (some (a,0)),.int .i64 x,.ptr (some (a,0)),.int .i64 y] h (tup 0 3) h:=by rw[ret_iff,t10_eq,t10];simp only[amS,Nat.reduceLeDiff,↓reduceIte,bxS,em1,k1_ na x,ne_eq,ieq]
theorem n655 (na:NA h a) (x sp:Int) (s1:Bytes):∃t,Ret cx 106 [.ptr (some (a,0)),.int .i64 x,.int .i64 sp,.str s1] h (.tuple [.slnil,I (-1),S [],I 3]) (h++t):=by refine⟨[.cells [.str s1]],?_⟩;rw[ret_iff,t106_eq,t106];simp only[amS,Nat.reduceLeDiff,↓reduceIte,bxS,em1,k1_ (NA.app (t:=[.cells [.str s1]]) na) x,ne_eq,ieq]
theorem n639 (na:NA h a) (x sp:Int) (s1 s2:Bytes):∃t,Ret cx 61 [.ptr (some (a,0)),.int .i64 x,.int .i64 sp,.str s1,.str s2] h (I 3) (h++t):=by obtain⟨t,r1⟩:=n655 na x sp s1;refine⟨t,?_⟩;rw[ret_iff,t61_eq,t61];simp only[amS,Nat.reduceLeDiff,↓reduceIte,bxS,r1,ne_eq,ieq]
theorem n640 (na:NA h a) (x sp:Int) (s1:Bytes):∃t,Ret cx 62 [.ptr (some (a,0)),.int .i64 x,.int .i64 sp,.str s1] h (.tuple [ff,I 3]) (h++t):=by obtain⟨t,r1⟩:=n655 na x sp s1;refine⟨t,?_⟩;rw[ret_iff,t62_eq,t62];simp only[amS,Nat.reduceLeDiff,↓reduceIte,bxS,r1,ne_eq,ieq]
theorem n643 (na:NA h a) (v:AVal) (hk:o.kind≠1):∃p q,Ret cx 66 [.ptr (some (a,0)),.agg (o.row v)] h (tup p q) h:=by
 unfold LOp.row;by_cases k2:o.kind=2
 ·refine⟨0,3,?_⟩;rw[ret_iff,t66_eq,t66];simp only[amS,Nat.reduceLeDiff,↓reduceIte,bxS,k2,Int.reduceEq,eq_self,n482 na o.a o.name o.s o.pub]
 by_cases k3:o.kind=3
 ·refine⟨0,3,?_⟩;rw[ret_iff,t66_eq,t66];simp only[amS,Nat.reduceLeDiff,↓reduceIte,bxS,k3,Int.reduceEq,eq_self,n152 na o.a o.space o.name v]
 by_cases k4:o.kind=4
 ·refine⟨0,3,?_⟩;rw[ret_iff,t66_eq,t66];simp only[amS,Nat.reduceLeDiff,↓reduceIte,bxS,k4,Int.reduceEq,eq_self,n37 na o.a o.s]
 by_cases k5:o.kind=5
 ·refine⟨0,3,?_⟩;rw[ret_iff,t66_eq,t66];simp only[amS,Nat.reduceLeDiff,↓reduceIte,bxS,k5,Int.reduceEq,eq_self,n135 na o.a o.s]
 by_cases k6:o.kind=6
 ·refine⟨0,3,?_⟩;rw[ret_iff,t66_eq,t66];simp only[amS,Nat.reduceLeDiff,↓reduceIte,bxS,k6,Int.reduceEq,eq_self,n644 na o.a]
 by_cases k7:o.kind=7
 ·refine⟨0,3,?_⟩;rw[ret_iff,t66_eq,t66];simp only[amS,Nat.reduceLeDiff,↓reduceIte,bxS,k7,Int.reduceEq,eq_self,n645 na o.a]
 by_cases k8:o.kind=8
 ·refine⟨0,3,?_⟩;rw[ret_iff,t66_eq,t66];simp only[amS,Nat.reduceLeDiff,↓reduceIte,bxS,k8,Int.reduceEq,eq_self,n112 na o.a o.b o.c]
 by_cases k9:o.kind=9
 ·refine⟨0,3,?_⟩;rw[ret_iff,t66_eq,t66];simp only[amS,Nat.reduceLeDiff,↓reduceIte,bxS,k9,Int.reduceEq,eq_self,n542 na o.a]
 by_cases k10:o.kind=10
 ·refine⟨0,3,?_⟩;rw[ret_iff,t66_eq,t66];simp only[amS,Nat.reduceLeDiff,↓reduceIte,bxS,k10,Int.reduceEq,eq_self,n36 na o.a o.s]
 by_cases k11:o.kind=11
 ·refine⟨0,3,?_⟩;rw[ret_iff,t66_eq,t66];simp only[amS,Nat.reduceLeDiff,↓reduceIte,bxS,k11,Int.reduceEq,eq_self,n143 na o.a v]
 by_cases k12:o.kind=12
 ·refine⟨0,3,?_⟩;rw[ret_iff,t66_eq,t66];simp only[amS,Nat.reduceLeDiff,↓reduceIte,bxS,k12,Int.reduceEq,eq_self,n480 na o.a o.flag]
 by_cases k13:o.kind=13
 ·refine⟨0,3,?_⟩;rw[ret_iff,t66_eq,t66];simp only[amS,Nat.reduceLeDiff,↓reduceIte,bxS,k13,Int.reduceEq,eq_self,n658 na o.a o.b]
 refine⟨0,0,?_⟩;rw[ret_iff,t66_eq,t66];simp only[amS,Nat.reduceLeDiff,↓reduceIte,bxS,hk,k2,k3,k4,k5,k6,k7,k8,k9,k10,k11,k12,k13]
theorem n625 (na:NA h a) (v:AVal) (hk:o.kind≠1):∃t p q,Ret cx 22 [.ptr (some (a,0)),.agg (o.row v)] h (tup p q) (h++t):=by
 by_cases k21:o.kind=21
 ·refine⟨[],0,3,?_⟩;rw[ret_iff,t22_eq,t22,LOp.row];simp only[amS,Nat.reduceLeDiff,↓reduceIte,bxS,k21,Int.reduceEq,eq_self,n632 na o.a o.b o.c,List.append_nil]
 by_cases k22:o.kind=22
 ·refine⟨[],0,3,?_⟩;rw[ret_iff,t22_eq,t22,LOp.row];simp only[amS,Nat.reduceLeDiff,↓reduceIte,bxS,k22,Int.reduceEq,eq_self,n623 na o.a o.b,List.append_nil]
 by_cases k23:o.kind=23
 ·refine⟨[],0,3,?_⟩;rw[ret_iff,t22_eq,t22,LOp.row];simp only[amS,Nat.reduceLeDiff,↓reduceIte,bxS,k23,Int.reduceEq,eq_self,n634 na o.a o.b o.c,List.append_nil]
 by_cases k24:o.kind=24
 ·refine⟨[],0,3,?_⟩;rw[ret_iff,t22_eq,t22,LOp.row];simp only[amS,Nat.reduceLeDiff,↓reduceIte,bxS,k24,Int.reduceEq,eq_self,n635 na o.a o.b,List.append_nil]
 by_cases k25:o.kind=25
 ·refine⟨[],0,3,?_⟩;rw[ret_iff,t22_eq,t22,LOp.row];simp only[amS,Nat.reduceLeDiff,↓reduceIte,bxS,k25,Int.reduceEq,eq_self,n636 na o.a,List.append_nil]
 by_cases k26:o.kind=26
 ·refine⟨[],0,3,?_⟩;rw[ret_iff,t22_eq,t22,LOp.row];simp only[amS,Nat.reduceLeDiff,↓reduceIte,bxS,k26,Int.reduceEq,eq_self,n637 na o.a o.b,List.append_nil]
 by_cases k27:o.kind=27
 ·refine⟨[],0,3,?_⟩;rw[ret_iff,t22_eq,t22,LOp.row];simp only[amS,Nat.reduceLeDiff,↓reduceIte,bxS,k27,Int.reduceEq,eq_self,n638 na o.a o.b,List.append_nil]
 by_cases k28:o.kind=28
 ·refine⟨[],0,3,?_⟩;rw[ret_iff,t22_eq,t22,LOp.row];simp only[amS,Nat.reduceLeDiff,↓reduceIte,bxS,k28,Int.reduceEq,eq_self,n622 na o.a o.name,List.append_nil]
 by_cases k31:o.kind=31
 ·refine⟨[],0,3,?_⟩;rw[ret_iff,t22_eq,t22,LOp.row];simp only[amS,Nat.reduceLeDiff,↓reduceIte,bxS,k31,Int.reduceEq,eq_self,n619 na o.a o.flag,List.append_nil]
 by_cases k32:o.kind=32
 ·refine⟨[],0,3,?_⟩;rw[ret_iff,t22_eq,t22,LOp.row];simp only[amS,Nat.reduceLeDiff,↓reduceIte,bxS,k32,Int.reduceEq,eq_self,n617 na o.a o.b,List.append_nil]
 by_cases k33:o.kind=33
 ·refine⟨[],0,3,?_⟩;rw[ret_iff,t22_eq,t22,LOp.row];simp only[amS,Nat.reduceLeDiff,↓reduceIte,bxS,k33,Int.reduceEq,eq_self,n624 na o.a o.s,List.append_nil]
 by_cases k34:o.kind=34
 ·refine⟨[],0,3,?_⟩;rw[ret_iff,t22_eq,t22,LOp.row];simp only[amS,Nat.reduceLeDiff,↓reduceIte,bxS,k34,Int.reduceEq,eq_self,n559 na o.a,List.append_nil]
 by_cases k35:o.kind=35
 ·refine⟨[],0,3,?_⟩;rw[ret_iff,t22_eq,t22,LOp.row];simp only[amS,Nat.reduceLeDiff,↓reduceIte,bxS,k35,Int.reduceEq,eq_self,n642 na o.a o.b,List.append_nil]
 by_cases k29:o.kind=29
 ·obtain⟨t,r1⟩:=n639 na o.a o.space o.name o.s;refine⟨t,0,3,?_⟩;rw[ret_iff,t22_eq,t22,LOp.row];simp only[amS,Nat.reduceLeDiff,↓reduceIte,bxS,k29,Int.reduceEq,eq_self,r1]
 by_cases k30:o.kind=30
 ·obtain⟨t,r1⟩:=n640 na o.a o.space o.name;obtain⟨i,r3⟩:=f641 false;refine⟨t,i,3,?_⟩;rw[ret_iff,t22_eq,t22,LOp.row];simp only[amS,Nat.reduceLeDiff,↓reduceIte,bxS,k30,Int.reduceEq,eq_self,r1,r3.pcall rfl rfl]
 obtain⟨p,q,r2⟩:=n643 na v hk;refine⟨[],p,q,?_⟩;rw[LOp.row] at r2;rw[ret_iff,t22_eq,t22,LOp.row];simp only[amS,Nat.reduceLeDiff,↓reduceIte,bxS,k21,k22,k23,k24,k25,k26,k27,k28,k29,k30,k31,k32,k33,k34,k35,r2,List.append_nil]
end
end Go.Am
end
