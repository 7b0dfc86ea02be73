/- Lemmas -/
import Derived.Test.YtjboelmdplaenaaGreatDoorQ26
import Derived.Test.YtjboelmdplaenaaGreatDoorQ27
set_option linter.unusedVariables false
set_option linter.unusedSimpArgs false
section
namespace Go.Am
open Go
set_option maxRecDepth 100000
section
variable {h h':AHeap} {a n:Nat} {m:Option Nat} {ps:List PN} {A:Ar} {sf:Int} {x:Int} {e:Int}
theorem PA.app (w:PA sf h a n m ps A) {t:AHeap}:PA sf (h++t) a n m ps A:=w.frame λi hi=>List.getElem?_append_left (w.lt i hi)
def okH (A:Ar) (o:Int) (l:List Int):Prop:=∀i,i<l.length→(l.getD i 0=0∧(i:Int)=o)∨A.has (l.getD i 0)
open Classical in
theorem f562g (w:PA sf h a n m ps A) (lm:Lim A) (hkb:∀y,(A.nd y).kids.length≤1000000000) {l:List Int} {v:AVal} (hv:IsInts l v) (hl:l.length≤1000) (o:Int):
  ∃t,Ret cx 27 [.ptr (some (a,0)),.int .i64 o,v] h (I (if okH A o l then 0 else 3)) (h++t):=by
 have hev:Ev cx 27 [.ptr (some (a,0)),.int .i64 o,v] h λr h'=>r=I (if okH A o l then 0 else 3)∧∃t,h'=h++t:=by
  unfold Ev;rw[t27_eq,t27];have lk:=IsSl.lenM hv;simp only[amS,bxS,lk];refine W_loop_st (λk:Nat=>[I 0,.int .i64 (k:Int)]) (λk h1=>k≤l.length∧(∀i,i<k→(l.getD i 0=0∧(i:Int)=o)∨A.has (l.getD i 0))∧∃t,h1=h++t) (λk=>l.length-k) 0 rfl ⟨Nat.zero_le _,λi hi=>absurd hi (Nat.not_lt_zero _),[],by simp⟩ ?_;rintro k h1 ⟨hk,hd,t,rfl⟩;rcases Nat.lt_or_ge k l.length with hlt|hge
  ·obtain⟨p,e1,e2⟩:=(IsInts.ints (h:=h++t) hv).at_ k hlt;have eg:l.getD k 0=l[k]:=by simp[List.getD_eq_getElem?_getD,hlt]
   have i1:(k:Int)<(l.length:Int):=by omega
   obtain⟨r,t2,r5,K,V,rfl,_⟩:=f97w (x:=l[k]) (w.app (t:=t)) lm (hkb _);have nx:(l.getD k 0=0∧(k:Int)=o)∨A.has (l.getD k 0)→∀i,i<k+1→(l.getD i 0=0∧(i:Int)=o)∨A.has (l.getD i 0):=λhh i hi=>by
    by_cases hik:i<k
    ·exact hd i hik
    ·obtain rfl:i=k:=by omega
     exact hh
   by_cases h0:l[k]=0
   ·by_cases ho:(k:Int)=o
    ·simp only[amS,bxS,i1,e1,e2,h0,eq_true ho,pe_incN k];exact LoopPost.next (k+1) rfl ⟨hlt,nx (.inl ⟨by rw[eg,h0],ho⟩),t,rfl⟩ (by omega)
    ·have hh:¬A.has l[k]:=by rw[h0];unfold Ar.has;omega
     rw[if_neg hh] at r5;rw[h0] at r5;simp only[amS,bxS,i1,e1,e2,h0,ho,r5,ne_eq,ieq];refine⟨_,rfl,?_,t++t2,by simp⟩;rw[if_neg];intro hc;rcases hc k hlt with h1|h1
     ·exact ho h1.2
     ·rw[eg] at h1;exact hh h1
   ·by_cases hh:A.has l[k]
    ·rw[if_pos hh] at r5;simp only[amS,bxS,i1,e1,e2,h0,r5,ne_eq,eq_self,pe_incN k];exact LoopPost.next (k+1) rfl ⟨hlt,nx (.inr (by rw[eg];exact hh)),t++t2,by simp⟩ (by omega)
    ·rw[if_neg hh] at r5;simp only[amS,bxS,i1,e1,e2,h0,r5,ne_eq,ieq];refine⟨_,rfl,?_,t++t2,by simp⟩;rw[if_neg];intro hc;rcases hc k hlt with h1|h1
     ·rw[eg] at h1;exact h0 h1.1
     ·rw[eg] at h1;exact hh h1
  ·have i1:¬(k:Int)<(l.length:Int):=by omega
   simp only[amS,bxS,i1];refine⟨_,rfl,?_,t,rfl⟩;rw[if_pos];intro i hi;exact hd i (by omega)
 obtain⟨r,h',hr,rfl,t,rfl⟩:=hev.ret;exact⟨t,hr⟩
theorem f626 (w:PA sf h a n m ps A) (lm:Lim A) (hkb:∀y,(A.nd y).kids.length≤1000000000) (x:Int):∃t,Ret cx 28 [.ptr (some (a,0)),.int .i64 x] h (.int .i64 (A.nd x).kind) (h++t):=by obtain⟨r,t,r5,K,V,rfl,_⟩:=f97w (x:=x) w lm (hkb _);exact⟨t,by rw[ret_iff,t28_eq,t28];simp only[amS,Nat.reduceLeDiff,↓reduceIte,bxS,r5]⟩
theorem f629 (w:PA sf h a n m ps A) (lm:Lim A) (hkb:∀y,(A.nd y).kids.length≤1000000000) (x:Int):∃t,Ret cx 31 [.ptr (some (a,0)),.int .i64 x] h (.int .i64 (A.nd x).doc) (h++t):=by obtain⟨r,t,r5,K,V,rfl,_⟩:=f97w (x:=x) w lm (hkb _);exact⟨t,by rw[ret_iff,t31_eq,t31];simp only[amS,Nat.reduceLeDiff,↓reduceIte,bxS,r5]⟩
end
end Go.Am
end
section
namespace Go.Am
open Go
set_option maxRecDepth 100000
def Eff (sf:Int) (f:FuncId) (args:List AVal) (h:AHeap) (F:Nat→Prop) (a:Nat) (P:AVal→Ar→Prop):Prop:=
 ∃r A' h' F',Ret cx f args h r h'∧PW sf h' F' a A'∧Ext h F h' F'∧P r A'
section
variable {h h':AHeap} {a n:Nat} {m:Option Nat} {ps:List PN} {A A':Ar} {sf:Int} {x d:Int} {e:Int} {F:Nat→Prop} {f:FuncId} {args:List AVal} {P Q:AVal→Ar→Prop}
theorem PW.pa_ (w:PW sf h F a A):∃n m ps,PA sf h a n m ps A∧F=λi=>i∈ids a n m ps:=by obtain⟨n,m,ps,w,e⟩:=w;exact⟨n,m,ps,w,funext λi=>propext (e i)⟩
theorem PA.pw_ (w:PA sf h a n m ps A):PW sf h (λi=>i∈ids a n m ps) a A:=⟨n,m,ps,w,λ_=>Iff.rfl⟩
theorem Eff.no (w:PW sf h F a A) {r:AVal} (r1:Ret cx f args h r h) (hp:P r A):Eff sf f args h F a P:=⟨r,A,h,F,r1,w,.refl,hp⟩
theorem Eff.add {n':Nat} {m':Option Nat} {ps':List PN} {h1:AHeap} {r:AVal} (r1:Ret cx f args h r h1) (w':PA sf h1 a n' m' ps' A') (x:Ext h F h1 (λi=>i∈ids a n' m' ps')) (hp:P r A'):Eff sf f args h F a P:=
 ⟨r,A',h1,_,r1,w'.pw_,x,hp⟩
abbrev tup (x e:Int):AVal:= .tuple [.int .i64 x,.int .i64 e]
def isDoc (A:Ar) (d:Int):Prop:=A.has d∧(A.nd d).kind=1
theorem f194g (w:PA sf h a n m ps A) (lm:Lim A) (hd:¬isDoc A d):∃e:Int,e≠0∧Ret cx 44 [.ptr (some (a,0)),.int .i64 d] h (.int .i64 e) h:=by
 refine⟨_,?_,f194w w lm⟩;by_cases h1:A.has d
 ·rw[if_pos h1,if_neg (λh2=>hd ⟨h1,h2⟩)];decide
 ·rw[if_neg h1];decide
theorem E26 (w:PW sf h F a A) (lm:Lim A) (hb:A.len+1≤1000000000) (q:Bool):
  Eff sf 9 [.ptr (some (a,0)),.bool q] h F a λr A'=>r= .int .i64 (A.len+1)∧A'=A.add {kind:=1,quirks:=q,doc:=A.len+1}:=by
 obtain⟨n,m,ps,w',rfl⟩:=w.pa_;obtain⟨h1,r1,w1,o1,l1⟩:=f26w w' lm hb q;exact .add r1 w1 (w'.ext_add rfl o1 l1) ⟨rfl,rfl⟩
theorem f108g (w:PA sf h a n m ps A) (lm:Lim A) (hb:A.len+1≤1000000000) (hd:isDoc A d) (p:PN) (hk:p.kv= .slnil) (hks:p.x.kids=[]) (hdc:p.x.doc=d) {d0:Int}:
  ∃h',Ret cx 98 [.ptr (some (a,0)),.int .i64 d,.agg [.int .i64 p.x.kind,.int .i64 p.x.par,p.kv,.int .i64 d0,.int .i64 p.x.space,.str p.x.name,p.av,.str p.x.data,.str p.x.pub,.str p.x.sys,.bool p.x.quirks,.int .i64 p.x.cont,.int .i64 p.x.host]] h (tup (A.len+1) 0) h'∧PA sf h' a h.length m (ps++[p]) (A.add p.x)∧(∀i,i<h.length→i≠a→i≠n→h'[i]?=h[i]?)∧h'.length=h.length+1:=by
 have hpl:=w.len;obtain⟨h1,r1,w1,o1,l1⟩:=f93w w (by omega) p hk hks;refine⟨h1,?_,w1,o1,l1⟩;rw[PN.row,hk,hdc] at r1;rw[ret_iff,t98_eq,t98,hk];simp only[amS,bxS,f194w (x:=d) w lm,if_pos hd.1,if_pos hd.2,ne_eq,eq_self,r1]
theorem f108n (w:PA sf h a n m ps A) (lm:Lim A) (hd:¬isDoc A d) {c0 c1 c2 c3 c4 c5 c6 c7 c8 c9 c10 c11 c12:AVal}:
  ∃e:Int,e≠0∧Ret cx 98 [.ptr (some (a,0)),.int .i64 d,.agg [c0,c1,c2,c3,c4,c5,c6,c7,c8,c9,c10,c11,c12]] h (tup 0 e) h:=by
 obtain⟨e,he,r1⟩:=f194g w lm hd;refine⟨e,he,?_⟩;rw[ret_iff,t98_eq,t98];simp only[amS,bxS,r1,he,ne_eq]
def Leaf (A:Ar) (d:Int) (y:ANode) (r:AVal) (A':Ar):Prop:=(isDoc A d∧r=tup (A.len+1) 0∧A'=A.add y)∨(¬isDoc A d∧(∃e,e≠0∧r=tup 0 e)∧A'=A)
theorem E644 (w:PW sf h F a A) (lm:Lim A) (hb:A.len+1≤1000000000):Eff sf 69 [.ptr (some (a,0)),.int .i64 d] h F a (Leaf A d {kind:=2,doc:=d}):=by
 by_cases hd:isDoc A d
 ·obtain⟨n,m,ps,w',rfl⟩:=w.pa_;obtain⟨h1,r1,w1,o1,l1⟩:=f108g (h:=h) w' lm hb hd ⟨{kind:=2,doc:=d},.slnil,.slnil,rfl⟩ rfl rfl rfl (d0:=0);dsimp only at r1;refine .add (h1:=h1) ?_ w1 (w'.ext_add rfl o1 l1) (.inl ⟨hd,rfl,rfl⟩);rw[ret_iff,t69_eq,t69];simp only[amS,Nat.reduceLeDiff,↓reduceIte,fillAt,bxS,r1]
 ·obtain⟨n,m,ps,w',rfl⟩:=w.pa_;obtain⟨e,he,r1⟩:=f108n w' lm hd (c0:=I 2) (c1:=I 0) (c2:= .slnil) (c3:=I 0) (c4:=I 0) (c5:=S []) (c6:= .slnil) (c7:=S []) (c8:=S []) (c9:=S []) (c10:= .bool false) (c11:=I 0) (c12:=I 0);refine .no w (r:=tup 0 e) ?_ (.inr ⟨hd,⟨e,he,rfl⟩,rfl⟩);rw[ret_iff,t69_eq,t69];simp only[amS,Nat.reduceLeDiff,↓reduceIte,fillAt,bxS,r1]
theorem E482 (w:PW sf h F a A) (lm:Lim A) (hb:A.len+1≤1000000000) (s1 s2 s3:Bytes):Eff sf 70 [.ptr (some (a,0)),.int .i64 d,.str s1,.str s2,.str s3] h F a (Leaf A d {kind:=3,doc:=d,name:=s1,pub:=s2,sys:=s3}):=by
 by_cases hd:isDoc A d
 ·obtain⟨n,m,ps,w',rfl⟩:=w.pa_;obtain⟨h1,r1,w1,o1,l1⟩:=f108g (h:=h) w' lm hb hd ⟨{kind:=3,doc:=d,name:=s1,pub:=s2,sys:=s3},.slnil,.slnil,rfl⟩ rfl rfl rfl (d0:=0);dsimp only at r1;refine .add (h1:=h1) ?_ w1 (w'.ext_add rfl o1 l1) (.inl ⟨hd,rfl,rfl⟩);rw[ret_iff,t70_eq,t70];simp only[amS,Nat.reduceLeDiff,↓reduceIte,fillAt,bxS,r1]
 ·obtain⟨n,m,ps,w',rfl⟩:=w.pa_;obtain⟨e,he,r1⟩:=f108n w' lm hd (c0:=I 3) (c1:=I 0) (c2:= .slnil) (c3:=I 0) (c4:=I 0) (c5:=S s1) (c6:= .slnil) (c7:=S []) (c8:=S s2) (c9:=S s3) (c10:= .bool false) (c11:=I 0) (c12:=I 0);refine .no w (r:=tup 0 e) ?_ (.inr ⟨hd,⟨e,he,rfl⟩,rfl⟩);rw[ret_iff,t70_eq,t70];simp only[amS,Nat.reduceLeDiff,↓reduceIte,fillAt,bxS,r1]
theorem E37 (w:PW sf h F a A) (lm:Lim A) (hb:A.len+1≤1000000000) (s:Bytes):Eff sf 54 [.ptr (some (a,0)),.int .i64 d,.str s] h F a (Leaf A d {kind:=5,doc:=d,data:=s}):=by
 by_cases hd:isDoc A d
 ·obtain⟨n,m,ps,w',rfl⟩:=w.pa_;obtain⟨h1,r1,w1,o1,l1⟩:=f37w (s:=s) w' lm hb hd;exact .add r1 w1 (w'.ext_add rfl o1 l1) (.inl ⟨hd,rfl,rfl⟩)
 ·obtain⟨n,m,ps,w',rfl⟩:=w.pa_;obtain⟨e,he,r1⟩:=f108n w' lm hd (c0:=I 5) (c1:=I 0) (c2:= .slnil) (c3:=I 0) (c4:=I 0) (c5:=S []) (c6:= .slnil) (c7:=S s) (c8:=S []) (c9:=S []) (c10:= .bool false) (c11:=I 0) (c12:=I 0);refine .no w (r:=tup 0 e) ?_ (.inr ⟨hd,⟨e,he,rfl⟩,rfl⟩);rw[ret_iff,t54_eq,t54];simp only[amS,Nat.reduceLeDiff,↓reduceIte,fillAt,bxS,r1]
theorem E135 (w:PW sf h F a A) (lm:Lim A) (hb:A.len+1≤1000000000) (s:Bytes):Eff sf 71 [.ptr (some (a,0)),.int .i64 d,.str s] h F a (Leaf A d {kind:=6,doc:=d,data:=s}):=by
 by_cases hd:isDoc A d
 ·obtain⟨n,m,ps,w',rfl⟩:=w.pa_;obtain⟨h1,r1,w1,o1,l1⟩:=f135w (s:=s) w' lm hb hd;exact .add r1 w1 (w'.ext_add rfl o1 l1) (.inl ⟨hd,rfl,rfl⟩)
 ·obtain⟨n,m,ps,w',rfl⟩:=w.pa_;obtain⟨e,he,r1⟩:=f108n w' lm hd (c0:=I 6) (c1:=I 0) (c2:= .slnil) (c3:=I 0) (c4:=I 0) (c5:=S []) (c6:= .slnil) (c7:=S s) (c8:=S []) (c9:=S []) (c10:= .bool false) (c11:=I 0) (c12:=I 0);refine .no w (r:=tup 0 e) ?_ (.inr ⟨hd,⟨e,he,rfl⟩,rfl⟩);rw[ret_iff,t71_eq,t71];simp only[amS,Nat.reduceLeDiff,↓reduceIte,fillAt,bxS,r1]
theorem E645 (w:PW sf h F a A) (lm:Lim A) (hb:A.len+1≤1000000000):Eff sf 72 [.ptr (some (a,0)),.int .i64 d] h F a λr A'=>(isDoc A d∧r=tup (A.inertH d) 0∧A'=A.inertA d)∨(¬isDoc A d∧(∃e,e≠0∧r=tup 0 e)∧A'=A):=by
 obtain⟨n,m,ps,w',rfl⟩:=w.pa_;by_cases hd:isDoc A d
 ·obtain⟨h1,n1,m1,ps1,r1,w1,x1⟩:=f239w w' lm hb hd.1;refine .add (h1:=h1) ?_ w1 x1 (.inl ⟨hd,rfl,rfl⟩);rw[ret_iff,t72_eq,t72];simp only[amS,bxS,f194w (x:=d) w' lm,if_pos hd.1,if_pos hd.2,ne_eq,eq_self,r1]
 ·obtain⟨e,he,r1⟩:=f194g w' lm hd;refine .no w (r:=tup 0 e) ?_ (.inr ⟨hd,⟨e,he,rfl⟩,rfl⟩);rw[ret_iff,t72_eq,t72];simp only[amS,bxS,r1,he,ne_eq]
theorem E480 (w:PW sf h F a A) (lm:Lim A) (q:Bool):Eff sf 112 [.ptr (some (a,0)),.int .i64 d,.bool q] h F a λr A'=>(∃e,r= .int .i64 e)∧((isDoc A d∧A'=A.set d {A.nd d with quirks:=q})∨A'=A):=by
 obtain⟨n,m,ps,w',rfl⟩:=w.pa_;by_cases hd:isDoc A d
 ·have hp:=(w'.pn hd.1).2.1;obtain⟨h2,s2,w2,i2,o2,l2⟩:=w'.wr hd.1 (k:=10) (by decide) (v:= .bool q) rfl (p:=⟨{A.nd d with quirks:=q},(pN ps d).kv,(pN ps d).av,by rw[←hp];exact(pN ps d).ok⟩) (by simp only[PN.row];rw[hp];rfl) rfl rfl;refine .add (h1:=h2) (r:=I 0) ?_ w2 (w'.wrRun w2 i2 o2 l2) ⟨⟨_,rfl⟩,.inl ⟨hd,rfl⟩⟩;rw[ret_iff,t112_eq,t112];simp only[amS,bxS,f194w (x:=d) w' lm,if_pos hd.1,if_pos hd.2,ne_eq,eq_self,f94w w' lm hd.1,s2]
 ·obtain⟨e,he,r1⟩:=f194g w' lm hd;refine .no w (r:= .int .i64 e) ?_ ⟨⟨_,rfl⟩,.inr rfl⟩;rw[ret_iff,t112_eq,t112];simp only[amS,bxS,r1,he,ne_eq]
theorem E36 (w:PW sf h F a A) (lm:Lim A) (s:Bytes):Eff sf 52 [.ptr (some (a,0)),.int .i64 x,.str s] h F a λr A'=>(∃e,r= .int .i64 e)∧((A.has x∧((A.nd x).kind=5∨(A.nd x).kind=6)∧A'=A.setData x s)∨A'=A):=by
 obtain⟨n,m,ps,w',rfl⟩:=w.pa_;by_cases hx:A.has x
 ·by_cases hk:(A.nd x).kind=5∨(A.nd x).kind=6
  ·have hp:=(w'.pn hx).2.1;obtain⟨h2,s2,w2,i2,o2,l2⟩:=w'.wr hx (k:=7) (by decide) (v:= .str s) rfl (p:=⟨{A.nd x with data:=s},(pN ps x).kv,(pN ps x).av,by rw[←hp];exact(pN ps x).ok⟩) (by simp only[PN.row];rw[hp];rfl) rfl rfl;refine .add (h1:=h2) (r:=I 0) ?_ w2 (w'.wrRun w2 i2 o2 l2) ⟨⟨_,rfl⟩,.inl ⟨hx,hk,rfl⟩⟩;rw[ret_iff,t52_eq,t52];rcases hk with hk|hk<;>simp only[amS,bxS,pe_mksl_i,f107_1 (x:=x) w',if_pos hx,ne_eq,eq_self,f94w w' lm hx,w'.f0 hx,hk,ieq,s2]
  ·have k5:¬(A.nd x).kind=5:=λh=>hk (.inl h);have k6:¬(A.nd x).kind=6:=λh=>hk (.inr h);refine .no w (r:=I 9) ?_ ⟨⟨_,rfl⟩,.inr rfl⟩;rw[ret_iff,t52_eq,t52];simp only[amS,bxS,pe_mksl_i,f107_1 (x:=x) w',if_pos hx,ne_eq,eq_self,f94w w' lm hx,w'.f0 hx,k5,k6]
 ·refine .no w (r:=I 3) ?_ ⟨⟨_,rfl⟩,.inr rfl⟩;rw[ret_iff,t52_eq,t52];simp only[amS,bxS,pe_mksl_i,f107_1 (x:=x) w',if_neg hx,ne_eq,ieq]
theorem E542 (w:PW sf h F a A) (lm:Lim A) (ok:ArOk A e) (hh:A.has x→(A.nd x).par≠0→sf<(A.nd x).par):Eff sf 97 [.ptr (some (a,0)),.int .i64 x] h F a λr A'=>(∃e,r= .int .i64 e)∧((A.has x∧A'=A.cut x)∨(¬A.has x∧A'=A)):=by
 obtain⟨n,m,ps,w',rfl⟩:=w.pa_;by_cases hx:A.has x
 ·obtain⟨h1,ps1,r1,w1,x1⟩:=f198w w' lm ok hx (hh hx);refine .add (h1:=h1) (r:=I 0) ?_ w1 x1 ⟨⟨_,rfl⟩,.inl ⟨hx,rfl⟩⟩;rw[ret_iff,t97_eq,t97];simp only[amS,bxS,pe_mksl_i,f107_1 (x:=x) w',if_pos hx,ne_eq,eq_self,r1]
 ·refine .no w (r:=I 3) ?_ ⟨⟨_,rfl⟩,.inr ⟨hx,rfl⟩⟩;rw[ret_iff,t97_eq,t97];simp only[amS,bxS,pe_mksl_i,f107_1 (x:=x) w',if_neg hx,ne_eq,ieq]
theorem E658 (w:PW sf h F a A) (lm:Lim A):Eff sf 113 [.ptr (some (a,0)),.int .i64 x,.int .i64 d] h F a λr A'=>(∃e,r= .int .i64 e)∧((A.has x∧isDoc A d∧(A.nd x).kind≠1∧A'=A.set x {A.nd x with doc:=d})∨(¬(A.has x∧isDoc A d∧(A.nd x).kind≠1)∧A'=A)):=by
 obtain⟨n,m,ps,w',rfl⟩:=w.pa_;by_cases hxd:A.has x∧A.has d
 ·obtain⟨hx,hd⟩:=hxd;by_cases h1:(A.nd x).kind=1
  ·refine .no w (r:=I 9) ?_ ⟨⟨_,rfl⟩,.inr ⟨λh=>h.2.2 h1,rfl⟩⟩;rw[ret_iff,t113_eq,t113];simp only[amS,bxS,pe_mksl_ii,f107_2 (x:=x) (y:=d) w',if_pos (And.intro hx hd),ne_eq,eq_self,f94w w' lm hx,w'.f0 hx,h1]
  ·by_cases h2:(A.nd d).kind=1
   ·have hp:=(w'.pn hx).2.1;obtain⟨h2',s2,w2,i2,o2,l2⟩:=w'.wr hx (k:=3) (by decide) (v:= .int .i64 d) rfl (p:=⟨{A.nd x with doc:=d},(pN ps x).kv,(pN ps x).av,by rw[←hp];exact(pN ps x).ok⟩) (by simp only[PN.row];rw[hp];rfl) rfl rfl;refine .add (h1:=h2') (r:=I 0) ?_ w2 (w'.wrRun w2 i2 o2 l2) ⟨⟨_,rfl⟩,.inl ⟨hx,⟨hd,h2⟩,h1,rfl⟩⟩;rw[ret_iff,t113_eq,t113];simp only[amS,bxS,pe_mksl_ii,f107_2 (x:=x) (y:=d) w',if_pos (And.intro hx hd),ne_eq,eq_self,f94w w' lm hx,w'.f0 hx,h1,f94w w' lm hd,w'.f0 hd,h2,s2]
   ·refine .no w (r:=I 9) ?_ ⟨⟨_,rfl⟩,.inr ⟨λh=>h2 h.2.1.2,rfl⟩⟩;rw[ret_iff,t113_eq,t113];simp only[amS,bxS,pe_mksl_ii,f107_2 (x:=x) (y:=d) w',if_pos (And.intro hx hd),ne_eq,eq_self,f94w w' lm hx,w'.f0 hx,h1,f94w w' lm hd,w'.f0 hd,h2]
 ·refine .no w (r:=I 3) ?_ ⟨⟨_,rfl⟩,.inr ⟨λh=>hxd ⟨h.1,h.2.1.1⟩,rfl⟩⟩;rw[ret_iff,t113_eq,t113];simp only[amS,bxS,pe_mksl_ii,f107_2 (x:=x) (y:=d) w',if_neg hxd,ne_eq,ieq]
theorem E112 {p b:Int} (w:PW sf h F a A) (lm:Lim A) (ok:ArOk A e) (hard:A.has p→A.has x→sf<p∧((A.nd x).par≠0→sf<(A.nd x).par)):Eff sf 55 [.ptr (some (a,0)),.int .i64 p,.int .i64 x,.int .i64 b] h F a λr A'=>(∃e,r= .int .i64 e)∧A'=A.tput p x b:=by obtain⟨n,m,ps,w',rfl⟩:=w.pa_;obtain⟨er,h1,ps1,r1,w1,x1⟩:=f112w (x:=x) (p:=p) (b:=b) w' lm ok hard;exact .add r1 w1 x1 ⟨⟨_,rfl⟩,rfl⟩
end
end Go.Am
end
section
namespace Go.Am
open Go
set_option maxRecDepth 100000
section
variable {h h':AHeap} {a n:Nat} {m:Option Nat} {ps:List PN} {A A':Ar} {sf:Int} {x d:Int} {e:Int} {F:Nat→Prop} {v:AVal} {l:List Attr}
theorem f231n (hv:AttrsIn h v l) (hb:l.length≤1000000000) (hs:¬∀y∈l,BS.okSp y.space):Ret cx 45 [v] h (.tuple [.slnil,.bool false]) h:=by
 rw[ret_iff,t45_eq,t45];simp only[amS,hv.len];refine W_loop_st (λk:Nat=>[.slnil,.bool false,avOf (once (l.take k)),.int .i64 (k:Int)]) (λk h1=>k≤l.length∧(∀y∈l.take k,BS.okSp y.space)∧h1=h) (λk=>l.length-k) 0 rfl ⟨Nat.zero_le _,by simp,rfl⟩ ?_;rintro k h1 ⟨hk,hd,rfl⟩;rcases Nat.lt_or_ge k l.length with hlt|hge
 ·have i1:(k:Int)<(l.length:Int):=by omega
  obtain⟨p,p1,p2⟩:=hv.at_ k hlt;have inc:=pe_incN k;have r1:=f237w (h:=h1) (y:=l[k].space);by_cases hsp:BS.okSp l[k].space
  ·have hF:AsksR (.func (.func 86) [] [.rptr l[k].row]) h1 (λc=>decide (keyOf l[k]=keyOf c)):=⟨_,_,rfl,by decide,λc=>f279w l[k] c h1⟩;have hol:(once (l.take k)).length≤1000000000:=by have:=once_le (l:=l.take k);rw[List.length_take] at this;omega
   have r2:=f141g (attrs_in avOf_is) hol hF;have e1:once (l.take (k+1))=if(once (l.take k)).any (λz=>decide (keyOf l[k]=keyOf z)) then once (l.take k) else once (l.take k)++[l[k]]:=by rw[List.take_succ_eq_append_getElem hlt];exact onceF_snoc
   have e2:=IsSl.app1M (f:=Attr.row) (a:=l[k]) (b:=40) (avOf_is (l:=once (l.take k))) (by have:=once_le (l:=l.take k);rw[List.length_take] at this;have:maxBytes=140737488355328:=rfl;omega);have em:peval (.mksl 3) [.agg l[k].row]=some (.sl 3 [l[k].row]):=rfl;have hd':∀y∈l.take (k+1),BS.okSp y.space:=λy hy=>by
    rw[List.take_succ_eq_append_getElem hlt] at hy;rcases List.mem_append.1 hy with hy|hy
    ·exact hd y hy
    ·rw[List.mem_singleton.1 hy];exact hsp
   rw[←avOf_snoc] at e2;rw[Attr.row] at r2 em e2 p2;simp only[amS,Nat.reduceLeDiff,↓reduceIte,bxS,i1,p1,p2,pe_mksl_i,r1,decide_eq_true hsp,r2,em,e2,inc];rw[cndW_iff];refine⟨λh2=>?_,λh2=>?_⟩
   ·exact LoopPost.next (k+1) (by rw[e1,if_neg (by simpa using h2)]) ⟨hlt,hd',rfl⟩ (by omega)
   ·exact LoopPost.next (k+1) (by rw[e1,if_pos (by simpa using h2)]) ⟨hlt,hd',rfl⟩ (by omega)
  ·rw[Attr.row] at p2;simp only[amS,Nat.reduceLeDiff,↓reduceIte,bxS,i1,p1,p2,pe_mksl_i,r1,decide_eq_false hsp]
 ·exact absurd (λy hy=>hd y (by rw[List.take_of_length_le hge];exact hy)) hs
theorem E152 (w:PW sf h F a A) (lm:Lim A) (hb:A.len+3≤1000000000) (hv:AttrsIn h v l) (hl:l.length≤1000000000) (sp:Int) (nm:Bytes):
  Eff sf 18 [.ptr (some (a,0)),.int .i64 d,.int .i64 sp,.str nm,v] h F a λr A'=>(isDoc A d∧BS.okSp sp∧(∀y∈l,BS.okSp y.space)∧r=tup (A.len+1) 0∧A'=A.elem d sp nm l)∨(¬(isDoc A d∧BS.okSp sp∧(∀y∈l,BS.okSp y.space))∧(∃e,e≠0∧r=tup 0 e)∧A'=A):=by
 obtain⟨n,m,ps,w',rfl⟩:=w.pa_;by_cases hd:isDoc A d
 ·by_cases hs:∀y∈l,BS.okSp y.space
  ·by_cases hsp:BS.okSp sp
   ·obtain⟨h1,n1,m1,ps1,r1,w1,x1,_⟩:=f152w (nm:=nm) w' lm hb hd hsp hv hl hs;exact .add r1 w1 x1 (.inl ⟨hd,hsp,hs,rfl,rfl⟩)
   ·have r1:=f231w (h:=h) hv hl hs;have r2:=f237w (h:=h) (y:=sp);rw[decide_eq_false hsp] at r2;refine .no w (r:=tup 0 2) ?_ (.inr ⟨λh=>hsp h.2.1,⟨2,by decide,rfl⟩,rfl⟩);rw[ret_iff,t18_eq,t18];simp only[amS,bxS,f194w (x:=d) w' lm,if_pos hd.1,if_pos hd.2,ne_eq,eq_self,r1,pe_mksl_i,r2]
  ·have r1:=f231n (h:=h) hv hl hs;refine .no w (r:=tup 0 2) ?_ (.inr ⟨λh=>hs h.2.2,⟨2,by decide,rfl⟩,rfl⟩);rw[ret_iff,t18_eq,t18];simp only[amS,bxS,f194w (x:=d) w' lm,if_pos hd.1,if_pos hd.2,ne_eq,eq_self,r1]
 ·obtain⟨e,he,r1⟩:=f194g w' lm hd;refine .no w (r:=tup 0 e) ?_ (.inr ⟨λh=>hd h.1,⟨e,he,rfl⟩,rfl⟩);rw[ret_iff,t18_eq,t18];simp only[amS,bxS,r1,he,ne_eq]
theorem E143 (w:PW sf h F a A) (lm:Lim A) (hv:AttrsIn h v l) (hl:l.length≤1000000000):
  Eff sf 108 [.ptr (some (a,0)),.int .i64 x,v] h F a λr A'=>(∃e,r= .int .i64 e)∧((A.has x∧(A.nd x).kind=4∧(∀y∈l,BS.okSp y.space)∧A'=A.setAttrs x l)∨A'=A):=by
 obtain⟨n,m,ps,w',rfl⟩:=w.pa_;by_cases hx:A.has x
 ·by_cases hk:(A.nd x).kind=4
  ·by_cases hs:∀y∈l,BS.okSp y.space
   ·obtain⟨h1,ps1,r1,w1,x1⟩:=f143w w' lm hx hk hv hl hs;exact .add r1 w1 x1 ⟨⟨_,rfl⟩,.inl ⟨hx,hk,hs,rfl⟩⟩
   ·have r1:=f231n (h:=h) hv hl hs;refine .no w (r:=I 2) ?_ ⟨⟨_,rfl⟩,.inr rfl⟩;rw[ret_iff,t108_eq,t108];simp only[amS,bxS,pe_mksl_i,f107_1 (x:=x) w',if_pos hx,ne_eq,eq_self,f94w w' lm hx,w'.f0 hx,hk,r1]
  ·refine .no w (r:=I 9) ?_ ⟨⟨_,rfl⟩,.inr rfl⟩;rw[ret_iff,t108_eq,t108];simp only[amS,bxS,pe_mksl_i,f107_1 (x:=x) w',if_pos hx,ne_eq,eq_self,f94w w' lm hx,w'.f0 hx,hk]
 ·refine .no w (r:=I 3) ?_ ⟨⟨_,rfl⟩,.inr rfl⟩;rw[ret_iff,t108_eq,t108];simp only[amS,bxS,pe_mksl_i,f107_1 (x:=x) w',if_neg hx,ne_eq,ieq]
end
end Go.Am
end
section
namespace Go.Am
open Go
set_option maxRecDepth 100000
section
variable {h h':AHeap} {a n:Nat} {m:Option Nat} {ps:List PN} {A A':Ar} {sf:Int} {x p c d:Int} {e:Int} {v:AVal} {l:List Int}
def Asks1 (f:FuncId) (args:List AVal) (h:AHeap):Prop:=∃b t,Ret cx f args h (.bool b) (h++t)
theorem f677 (hv:IsInts l v) (hb:l.length≤1000000000) (k:Int):∃r,Ret cx 186 [v,.int .i64 k] h (.int .i64 r) h:=by
 have hev:Ev cx 186 [v,.int .i64 k] h λr h'=>(∃q,r= .int .i64 q)∧h'=h:=by
  unfold Ev;rw[t186_eq,t186];simp only[amS,IsSl.lenM hv];refine W_loop_st (λn:Nat=>[.int .i64 0,.int .i64 (n:Int)]) (λn h1=>n≤l.length∧h1=h) (λn=>l.length-n) 0 rfl ⟨Nat.zero_le _,rfl⟩ ?_;rintro n h1 ⟨hn,rfl⟩;rcases Nat.lt_or_ge n l.length with hlt|hge
  ·have i1:(n:Int)<(l.length:Int):=by omega
   obtain⟨p,e1,e2⟩:=(IsInts.ints (h:=h1) hv).at_ n hlt;simp only[amS,bxS,i1,e1,e2,pe_incN n];refine⟨λ_=>by simp,λ_=>LoopPost.next (n+1) rfl ⟨hlt,rfl⟩ (by omega)⟩
  ·have i1:¬(n:Int)<(l.length:Int):=by omega
   simp only[amS,bxS,i1];simp
 obtain⟨r,h',hr,⟨q,rfl⟩,rfl⟩:=hev.ret;exact⟨q,hr⟩
theorem f676 (hv:IsInts l v) (hb:l.length≤1000000000) (k:Int):∃b,Ret cx 174 [v,.int .i64 k] h (.bool b) h:=by obtain⟨q,r1⟩:=f677 (h:=h) hv hb k;exact⟨decide (0≤q),by rw[ret_iff,t174_eq,t174];simp only[amS,r1]⟩
abbrev mrow (a:Nat) (p x c:Int) (q:Bool):List AVal:=[.ptr (some (a,0)),.int .i64 p,.int .i64 x,.int .i64 c,.bool q]
theorem f675 (w:PA sf h a n m ps A) (lm:Lim A) (hkb:∀y,(A.nd y).kids.length≤1000000000) (q:Bool):
  ∃v0 v1 l0 l1 t,Ret cx 173 [.agg (mrow a p x c q)] h (.tuple [v0,v1]) (h++t)∧IsInts l0 v0∧IsInts l1 v1∧l0.length≤1000000000∧l1.length≤1000000000:=by
 obtain⟨v,r1,hv⟩:=f110w (x:=p) w lm (hkb p);have hlim:=hkb p;have hev:Ev cx 173 [.agg (mrow a p x c q)] h λr h'=>∃v0 v1 l0 l1,r= .tuple [v0,v1]∧IsInts l0 v0∧IsInts l1 v1∧l0.length≤1000000000∧l1.length≤1000000000∧∃t,h'=h++t:=by
  unfold Ev;rw[t173_eq,t173];simp only[amS,Nat.reduceLeDiff,↓reduceIte,bxS,r1,IsSl.lenM hv];refine W_loop_st (λs:Nat×AVal×AVal×Bool=>[s.2.1,s.2.2.1,.bool s.2.2.2,.int .i64 (s.1:Int)]) (λs h1=>s.1≤(A.nd p).kids.length∧(∃l0 l1,IsInts l0 s.2.1∧IsInts l1 s.2.2.1∧l0.length≤s.1∧l1.length≤s.1)∧∃t,h1=h++t) (λs=>(A.nd p).kids.length-s.1) (0,.slnil,.slnil,false) rfl ⟨Nat.zero_le _,⟨[],[],.inr ⟨rfl,rfl⟩,.inr ⟨rfl,rfl⟩,Nat.le_refl _,Nat.le_refl _⟩,[],by simp⟩ ?_;rintro⟨k,u0,u1,met⟩ h1 ⟨hk,⟨l0,l1,h0,h1',z0,z1⟩,t,rfl⟩;simp only at hk h0 h1' z0 z1;rcases Nat.lt_or_ge k (A.nd p).kids.length with hlt|hge
  ·have i1:(k:Int)<((A.nd p).kids.length:Int):=by omega
   obtain⟨p',e1,e2⟩:=(IsInts.ints (h:=h++t) hv).at_ k hlt;obtain⟨t2,r2⟩:=f626 (w.app (t:=t)) lm hkb (A.nd p).kids[k];have em:∀z:Int,peval (.mksl 1) [.int .i64 z]=some (.sl 1 [[.int .i64 z]]):=λ_=>rfl;have a0:=IsSl.app1M (f:=intRow) (a:=(A.nd (A.nd p).kids[k]).kind) (b:=8) h0 (by have:maxBytes=140737488355328:=rfl;omega);have a1:=IsSl.app1M (f:=intRow) (a:=(A.nd (A.nd p).kids[k]).kind) (b:=8) h1' (by have:maxBytes=140737488355328:=rfl;omega);unfold intRow at a0 a1;by_cases hc:(A.nd p).kids[k]=c
   ·simp only[amS,bxS,i1,e1,e2,eq_true hc,pe_incN k];exact LoopPost.next (k+1,u0,u1,true) rfl ⟨hlt,⟨l0,l1,h0,h1',by simp only;omega,by simp only;omega⟩,t,rfl⟩ (by simp only;omega)
   ·cases met
    ·simp only[amS,bxS,i1,e1,e2,hc,r2,em,a0,pe_incN k];refine LoopPost.next (k+1,_,u1,false) rfl ⟨hlt,⟨l0++[(A.nd (A.nd p).kids[k]).kind],l1,.inl rfl,h1',by simp;omega,by simp only;omega⟩,t++t2,by simp⟩ (by simp only;omega)
    ·simp only[amS,bxS,i1,e1,e2,hc,r2,em,a1,pe_incN k];refine LoopPost.next (k+1,u0,_,true) rfl ⟨hlt,⟨l0,l1++[(A.nd (A.nd p).kids[k]).kind],h0,.inl rfl,by simp only;omega,by simp;omega⟩,t++t2,by simp⟩ (by simp only;omega)
  ·have i1:¬(k:Int)<((A.nd p).kids.length:Int):=by omega
   simp only[amS,bxS,i1];exact⟨_,rfl,u0,u1,l0,l1,rfl,h0,h1',by omega,by omega,t,rfl⟩
 obtain⟨r,h',hr,v0,v1,l0,l1,rfl,g0,g1,g2,g3,t,rfl⟩:=hev.ret;exact⟨v0,v1,l0,l1,t,hr,g0,g1,g2,g3⟩
theorem f673 (w:PA sf h a n m ps A) (lm:Lim A) (hkb:∀y,(A.nd y).kids.length≤1000000000) (q:Bool):Asks1 164 [.agg (mrow a p x c q)] h:=by
 obtain⟨v0,v1,l0,l1,t,r1,g0,g1,z0,z1⟩:=f675 (p:=p) (x:=x) (c:=c) w lm hkb q;obtain⟨b1,r2⟩:=f676 (h:=h++t) g0 z0 4;obtain⟨b2,r3⟩:=f676 (h:=h++t) g1 z1 4;obtain⟨b3,r4⟩:=f676 (h:=h++t) g1 z1 3;obtain⟨t2,r5⟩:=f626 (w.app (t:=t)) lm hkb c;obtain⟨t3,r6⟩:=f626 ((w.app (t:=t)).app (t:=t2)) lm hkb c;have hev:Ev cx 164 [.agg (mrow a p x c q)] h λr h'=>(∃b,r= .bool b)∧∃t,h'=h++t:=by
  unfold Ev;rw[t164_eq,t164]
  cases b1
  rotate_left
  ·simp only[amS,Nat.reduceLeDiff,↓reduceIte,bxS,r1,r2];exact⟨_,rfl,⟨_,rfl⟩,_,rfl⟩
  cases b2
  rotate_left
  ·simp only[amS,Nat.reduceLeDiff,↓reduceIte,bxS,r1,r2,r3];exact⟨_,rfl,⟨_,rfl⟩,_,rfl⟩
  cases b3
  rotate_left
  ·simp only[amS,Nat.reduceLeDiff,↓reduceIte,bxS,r1,r2,r3,r4];exact⟨_,rfl,⟨_,rfl⟩,_,rfl⟩
  cases q
  rotate_left
  ·simp only[amS,Nat.reduceLeDiff,↓reduceIte,bxS,r1,r2,r3,r4];exact⟨_,rfl,⟨_,rfl⟩,_,rfl⟩
  by_cases hc:c=0
  ·simp only[amS,Nat.reduceLeDiff,↓reduceIte,bxS,r1,r2,r3,r4,eq_true hc,ne_eq,not_true_eq_false,decide_false];exact⟨_,rfl,⟨_,rfl⟩,_,rfl⟩
  ·by_cases k4:(A.nd c).kind=4
   ·simp only[amS,Nat.reduceLeDiff,↓reduceIte,bxS,r1,r2,r3,r4,hc,ne_eq,r5,k4];exact⟨_,rfl,⟨_,rfl⟩,t++t2,by simp⟩
   ·simp only[amS,Nat.reduceLeDiff,↓reduceIte,bxS,r1,r2,r3,r4,hc,ne_eq,r5,k4,r6];exact⟨_,rfl,⟨_,rfl⟩,t++(t2++t3),by simp⟩
 obtain⟨r,h',hr,⟨b,rfl⟩,t,rfl⟩:=hev.ret;exact⟨b,t,hr⟩
theorem f674 (w:PA sf h a n m ps A) (lm:Lim A) (hkb:∀y,(A.nd y).kids.length≤1000000000) (q:Bool):Asks1 165 [.agg (mrow a p x c q)] h:=by
 obtain⟨v0,v1,l0,l1,t,r1,g0,g1,z0,z1⟩:=f675 (p:=p) (x:=x) (c:=c) w lm hkb q;obtain⟨b1,r2⟩:=f676 (h:=h++t) g0 z0 3;obtain⟨b2,r3⟩:=f676 (h:=h++t) g1 z1 3;obtain⟨b3,r4⟩:=f676 (h:=h++t) g0 z0 4;obtain⟨t2,r5⟩:=f626 (w.app (t:=t)) lm hkb c;have hev:Ev cx 165 [.agg (mrow a p x c q)] h λr h'=>(∃b,r= .bool b)∧∃t,h'=h++t:=by
  unfold Ev;rw[t165_eq,t165]
  cases b1
  rotate_left
  ·simp only[amS,Nat.reduceLeDiff,↓reduceIte,bxS,r1,r2];exact⟨_,rfl,⟨_,rfl⟩,_,rfl⟩
  cases b2
  rotate_left
  ·simp only[amS,Nat.reduceLeDiff,↓reduceIte,bxS,r1,r2,r3];exact⟨_,rfl,⟨_,rfl⟩,_,rfl⟩
  cases b3
  rotate_left
  ·simp only[amS,Nat.reduceLeDiff,↓reduceIte,bxS,r1,r2,r3,r4];exact⟨_,rfl,⟨_,rfl⟩,_,rfl⟩
  cases q
  rotate_left
  ·simp only[amS,Nat.reduceLeDiff,↓reduceIte,bxS,r1,r2,r3,r4];exact⟨_,rfl,⟨_,rfl⟩,_,rfl⟩
  by_cases hc:c=0
  ·simp only[amS,Nat.reduceLeDiff,↓reduceIte,bxS,r1,r2,r3,r4,eq_true hc,ne_eq,not_true_eq_false,decide_false];exact⟨_,rfl,⟨_,rfl⟩,_,rfl⟩
  ·simp only[amS,Nat.reduceLeDiff,↓reduceIte,bxS,r1,r2,r3,r4,hc,ne_eq,r5];exact⟨_,rfl,⟨_,rfl⟩,t++t2,by simp⟩
 obtain⟨r,h',hr,⟨b,rfl⟩,t,rfl⟩:=hev.ret;exact⟨b,t,hr⟩
theorem f672 (w:PA sf h a n m ps A) (lm:Lim A) (hkb:∀y,(A.nd y).kids.length≤1000000000) (q:Bool):Asks1 157 [.agg (mrow a p x c q)] h:=by
 obtain⟨t,r1⟩:=f626 w lm hkb x;have hlim:=hkb x;have hev:Ev cx 157 [.agg (mrow a p x c q)] h λr h'=>(∃b,r= .bool b)∧∃t,h'=h++t:=by
  unfold Ev;rw[t157_eq,t157];by_cases k2:(A.nd x).kind=2
  ·obtain⟨v,r2,hv⟩:=f110w (x:=x) (w.app (t:=t)) lm (hkb x);simp only[amS,Nat.reduceLeDiff,↓reduceIte,bxS,r1,k2,r2,IsSl.lenM hv];refine W_loop_st (λs:Nat×Nat=>[.bool false,.int .i64 (s.2:Int),.int .i64 (s.1:Int)]) (λs h1=>s.1≤(A.nd x).kids.length∧s.2≤s.1∧∃t,h1=h++t) (λs=>(A.nd x).kids.length-s.1) (0,0) rfl ⟨Nat.zero_le _,Nat.le_refl _,t,rfl⟩ ?_;rintro⟨k,j⟩ h1 ⟨hk,hj,t1,rfl⟩;simp only at hk hj;rcases Nat.lt_or_ge k (A.nd x).kids.length with hlt|hge
   ·have i1:(k:Int)<((A.nd x).kids.length:Int):=by omega
    obtain⟨p',e1,e2⟩:=(IsInts.ints (h:=h++t1) hv).at_ k hlt;obtain⟨t2,r3⟩:=f626 (w.app (t:=t1)) lm hkb (A.nd x).kids[k];by_cases k5:(A.nd (A.nd x).kids[k]).kind=5
    ·simp only[amS,bxS,i1,e1,e2,r3,k5];exact⟨_,rfl,⟨_,rfl⟩,t1++t2,by simp⟩
    ·by_cases k4:(A.nd (A.nd x).kids[k]).kind=4
     ·simp only[amS,bxS,i1,e1,e2,r3,k5,k4,ieq,pe_incN k,pe_incN j];exact LoopPost.next (k+1,j+1) rfl ⟨hlt,by simp only;omega,t1++t2,by simp⟩ (by simp only;omega)
     ·simp only[amS,bxS,i1,e1,e2,r3,k5,k4,pe_incN k];exact LoopPost.next (k+1,j) rfl ⟨hlt,by simp only;omega,t1++t2,by simp⟩ (by simp only;omega)
   ·have i1:¬(k:Int)<((A.nd x).kids.length:Int):=by omega
    obtain⟨b,t2,r4⟩:=f673 (p:=p) (x:=x) (c:=c) (w.app (t:=t1)) lm hkb q;simp only[amS,bxS,i1,↓reduceIte,r4];refine⟨λ_=>⟨_,rfl,⟨_,rfl⟩,t1,rfl⟩,λ_=>⟨λ_=>⟨_,rfl,⟨_,rfl⟩,t1++t2,by simp⟩,λ_=>⟨_,rfl,⟨_,rfl⟩,t1,rfl⟩⟩⟩
  ·obtain⟨b,t2,r4⟩:=f673 (p:=p) (x:=x) (c:=c) (w.app (t:=t)) lm hkb q;obtain⟨b',t3,r5⟩:=f674 (p:=p) (x:=x) (c:=c) (w.app (t:=t)) lm hkb q;simp only[amS,Nat.reduceLeDiff,↓reduceIte,bxS,r1,k2,r4,r5];refine⟨λ_=>⟨_,rfl,⟨_,rfl⟩,t++t2,by simp⟩,λ_=>⟨λ_=>⟨_,rfl,⟨_,rfl⟩,t++t3,by simp⟩,λ_=>⟨_,rfl,⟨_,rfl⟩,t,rfl⟩⟩⟩
 obtain⟨r,h',hr,⟨b,rfl⟩,t,rfl⟩:=hev.ret;exact⟨b,t,hr⟩
theorem f666 (w:PA sf h a n m ps A) (lm:Lim A) (hkb:∀y,(A.nd y).kids.length≤1000000000) (q:Bool):Asks1 151 [.agg (mrow a p x c q)] h:=by
 obtain⟨t,r1⟩:=f626 w lm hkb p;have hev:Ev cx 151 [.agg (mrow a p x c q)] h λr h'=>(∃b,r= .bool b)∧∃t,h'=h++t:=by unfold Ev;rw[t151_eq,t151];simp only[amS,Nat.reduceLeDiff,↓reduceIte,bxS,r1];refine⟨λ_=>⟨λ_=>⟨_,rfl,⟨_,rfl⟩,t,rfl⟩,λ_=>⟨_,rfl,⟨_,rfl⟩,t,rfl⟩⟩,λ_=>⟨_,rfl,⟨_,rfl⟩,t,rfl⟩⟩
 obtain⟨r,h',hr,⟨b,rfl⟩,t,rfl⟩:=hev.ret;exact⟨b,t,hr⟩
theorem f667 (w:PA sf h a n m ps A) (ok:ArOk A e) (hx:A.has x) (hp:A.has p) (q:Bool):Asks1 152 [.agg (mrow a p x c q)] h:=by have r1:=f197w w ok hx hp;exact⟨_,[],by rw[ret_iff,t152_eq,t152];simp only[amS,Nat.reduceLeDiff,↓reduceIte,bxS,r1,List.append_nil];rfl⟩
theorem f668 (w:PA sf h a n m ps A) (lm:Lim A) (q:Bool):Asks1 153 [.agg (mrow a p x c q)] h:=by
 have r1:=f193w (x:=c) w lm;have hev:Ev cx 153 [.agg (mrow a p x c q)] h λr h'=>(∃b,r= .bool b)∧∃t,h'=h++t:=by unfold Ev;rw[t153_eq,t153];simp only[amS,Nat.reduceLeDiff,↓reduceIte,bxS,r1];refine⟨λ_=>⟨_,rfl,⟨_,rfl⟩,[],by simp⟩,λ_=>⟨_,rfl,⟨_,rfl⟩,[],by simp⟩⟩
 obtain⟨r,h',hr,⟨b,rfl⟩,t,rfl⟩:=hev.ret;exact⟨b,t,hr⟩
theorem f669 (w:PA sf h a n m ps A) (lm:Lim A) (hkb:∀y,(A.nd y).kids.length≤1000000000) (q:Bool):Asks1 154 [.agg (mrow a p x c q)] h:=by obtain⟨t,r1⟩:=f626 w lm hkb x;exact⟨_,t,by rw[ret_iff,t154_eq,t154];simp only[amS,Nat.reduceLeDiff,↓reduceIte,bxS,r1];rfl⟩
theorem f670 (w:PA sf h a n m ps A) (lm:Lim A) (hkb:∀y,(A.nd y).kids.length≤1000000000) (q:Bool):Asks1 155 [.agg (mrow a p x c q)] h:=by
 obtain⟨t,r1⟩:=f626 w lm hkb p;obtain⟨t2,r2⟩:=f626 (w.app (t:=t)) lm hkb x;have hev:Ev cx 155 [.agg (mrow a p x c q)] h λr h'=>(∃b,r= .bool b)∧∃t,h'=h++t:=by
  unfold Ev;rw[t155_eq,t155];by_cases k1:(A.nd p).kind=1
  ·simp only[amS,Nat.reduceLeDiff,↓reduceIte,bxS,r1,r2,k1,decide_true,decide_false];refine⟨λ_=>⟨_,rfl,⟨_,rfl⟩,t++t2,by simp⟩,λ_=>⟨_,rfl,⟨_,rfl⟩,t++t2,by simp⟩⟩
  ·simp only[amS,Nat.reduceLeDiff,↓reduceIte,bxS,r1,r2,k1,decide_true,decide_false];exact⟨_,rfl,⟨_,rfl⟩,t++t2,by simp⟩
 obtain⟨r,h',hr,⟨b,rfl⟩,t,rfl⟩:=hev.ret;exact⟨b,t,hr⟩
theorem f671 (w:PA sf h a n m ps A) (lm:Lim A) (hkb:∀y,(A.nd y).kids.length≤1000000000) (q:Bool):Asks1 156 [.agg (mrow a p x c q)] h:=by
 obtain⟨t,r1⟩:=f626 w lm hkb p;obtain⟨b,t2,r2⟩:=f672 (p:=p) (x:=x) (c:=c) (w.app (t:=t)) lm hkb q;have hev:Ev cx 156 [.agg (mrow a p x c q)] h λr h'=>(∃b,r= .bool b)∧∃t,h'=h++t:=by unfold Ev;rw[t156_eq,t156];simp only[amS,Nat.reduceLeDiff,↓reduceIte,bxS,r1,r2];refine⟨λ_=>⟨_,rfl,⟨_,rfl⟩,t++t2,by simp⟩,λ_=>⟨_,rfl,⟨_,rfl⟩,t,rfl⟩⟩
 obtain⟨r,h',hr,⟨b,rfl⟩,t,rfl⟩:=hev.ret;exact⟨b,t,hr⟩
abbrev ruleRows:List (List AVal):=[[.func (.func 151) [] [],I 4],[.func (.func 152) [] [],I 4],[.func (.func 153) [] [],I 5],[.func (.func 154) [] [],I 4],[.func (.func 155) [] [],I 4],[.func (.func 156) [] [],I 4]]
theorem f663:Ret cx 134 [] h (.sl 2 ruleRows) h:=by rw[ret_iff,t134_eq,t134];simp only[amS,Nat.reduceLeDiff,↓reduceIte,fillAt,bxS,show peval (.mksl 2) [.agg [.func (.func 151) [] [],I 4],.agg [.func (.func 152) [] [],I 4],.agg [.func (.func 153) [] [],I 5],.agg [.func (.func 154) [] [],I 4],.agg [.func (.func 155) [] [],I 4],.agg [.func (.func 156) [] [],I 4]]=some (.sl 2 ruleRows) from rfl]
theorem f653 (w:PA sf h a n m ps A) (lm:Lim A) (ok:ArOk A e) (hx:A.has x) (hp:A.has p) (q:Bool):∃r t,Ret cx 103 [.agg (mrow a p x c q)] h (.int .i64 r) (h++t):=by
 have hkb:=lm.kids ok;have hev:Ev cx 103 [.agg (mrow a p x c q)] h λr h'=>(∃b,r= .int .i64 b)∧∃t,h'=h++t:=by
  unfold Ev;rw[t103_eq,t103];have hv:IsSl 2 ruleRows (.sl 2 ruleRows):= .mk;have hl:ruleRows.length=6:=rfl;have lk:=hv.len;rw[hl] at lk;simp only[amS,Nat.reduceLeDiff,↓reduceIte,bxS,f663 (h:=h),lk];refine W_loop_st (λk:Nat=>[I 0,.int .i64 (k:Int)]) (λk h1=>k≤6∧∃t,h1=h++t) (λk=>6 -k) 0 rfl ⟨Nat.zero_le _,[],by simp⟩ ?_;rintro k h1 ⟨hk,t,rfl⟩;rcases Nat.lt_or_ge k 6 with hlt|hge
  ·have i1:(k:Int)<((6:Nat):Int):=by omega
   have w1:=w.app (t:=t);obtain rfl|rfl|rfl|rfl|rfl|rfl:k=0∨k=1∨k=2∨k=3∨k=4∨k=5:=by omega
   ·obtain⟨b,t2,r1⟩:=f666 (p:=p) (x:=x) (c:=c) w1 lm hkb q;have e0:=hv.eaddr (k:= .i64) (show 0<ruleRows.length by decide);simp only[List.getElem_cons_zero,List.getElem_cons_succ] at e0;simp only[amS,Nat.reduceLeDiff,↓reduceIte,targetOf,bxS,show((0:Nat):Int)<((6:Nat):Int) by decide,e0,r1,List.append_nil,pe_incN 0]
    cases b
    ·exact .inr ⟨rfl,LoopPost.next 1 rfl ⟨by decide,t++t2,by simp⟩ (by decide)⟩
    ·exact .inl ⟨rfl,_,rfl,⟨_,rfl⟩,t++t2,by simp⟩
   ·obtain⟨b,t2,r1⟩:=f667 (c:=c) w1 ok hx hp q;have e0:=hv.eaddr (k:= .i64) (show 1<ruleRows.length by decide);simp only[List.getElem_cons_zero,List.getElem_cons_succ] at e0;simp only[amS,Nat.reduceLeDiff,↓reduceIte,targetOf,bxS,show((1:Nat):Int)<((6:Nat):Int) by decide,e0,r1,List.append_nil,pe_incN 1]
    cases b
    ·exact .inr ⟨rfl,LoopPost.next 2 rfl ⟨by decide,t++t2,by simp⟩ (by decide)⟩
    ·exact .inl ⟨rfl,_,rfl,⟨_,rfl⟩,t++t2,by simp⟩
   ·obtain⟨b,t2,r1⟩:=f668 (p:=p) (x:=x) (c:=c) w1 lm q;have e0:=hv.eaddr (k:= .i64) (show 2<ruleRows.length by decide);simp only[List.getElem_cons_zero,List.getElem_cons_succ] at e0;simp only[amS,Nat.reduceLeDiff,↓reduceIte,targetOf,bxS,show((2:Nat):Int)<((6:Nat):Int) by decide,e0,r1,List.append_nil,pe_incN 2]
    cases b
    ·exact .inr ⟨rfl,LoopPost.next 3 rfl ⟨by decide,t++t2,by simp⟩ (by decide)⟩
    ·exact .inl ⟨rfl,_,rfl,⟨_,rfl⟩,t++t2,by simp⟩
   ·obtain⟨b,t2,r1⟩:=f669 (p:=p) (x:=x) (c:=c) w1 lm hkb q;have e0:=hv.eaddr (k:= .i64) (show 3<ruleRows.length by decide);simp only[List.getElem_cons_zero,List.getElem_cons_succ] at e0;simp only[amS,Nat.reduceLeDiff,↓reduceIte,targetOf,bxS,show((3:Nat):Int)<((6:Nat):Int) by decide,e0,r1,List.append_nil,pe_incN 3]
    cases b
    ·exact .inr ⟨rfl,LoopPost.next 4 rfl ⟨by decide,t++t2,by simp⟩ (by decide)⟩
    ·exact .inl ⟨rfl,_,rfl,⟨_,rfl⟩,t++t2,by simp⟩
   ·obtain⟨b,t2,r1⟩:=f670 (p:=p) (x:=x) (c:=c) w1 lm hkb q;have e0:=hv.eaddr (k:= .i64) (show 4<ruleRows.length by decide);simp only[List.getElem_cons_zero,List.getElem_cons_succ] at e0;simp only[amS,Nat.reduceLeDiff,↓reduceIte,targetOf,bxS,show((4:Nat):Int)<((6:Nat):Int) by decide,e0,r1,List.append_nil,pe_incN 4]
    cases b
    ·exact .inr ⟨rfl,LoopPost.next 5 rfl ⟨by decide,t++t2,by simp⟩ (by decide)⟩
    ·exact .inl ⟨rfl,_,rfl,⟨_,rfl⟩,t++t2,by simp⟩
   ·obtain⟨b,t2,r1⟩:=f671 (p:=p) (x:=x) (c:=c) w1 lm hkb q;have e0:=hv.eaddr (k:= .i64) (show 5<ruleRows.length by decide);simp only[List.getElem_cons_zero,List.getElem_cons_succ] at e0;simp only[amS,Nat.reduceLeDiff,↓reduceIte,targetOf,bxS,show((5:Nat):Int)<((6:Nat):Int) by decide,e0,r1,List.append_nil,pe_incN 5]
    cases b
    ·exact .inr ⟨rfl,LoopPost.next 6 rfl ⟨by decide,t++t2,by simp⟩ (by decide)⟩
    ·exact .inl ⟨rfl,_,rfl,⟨_,rfl⟩,t++t2,by simp⟩
  ·have i1:¬(k:Int)<((6:Nat):Int):=by omega
   simp only[amS,bxS,i1];exact⟨_,rfl,⟨_,rfl⟩,t,rfl⟩
 obtain⟨r,h',hr,⟨b,rfl⟩,t,rfl⟩:=hev.ret;exact⟨b,t,hr⟩
end
end Go.Am
end
section
namespace Go.Am
open Go
set_option maxRecDepth 100000
def ANode.says (x:ANode):Bytes×List Attr×Bytes×Bytes×Bytes:=(x.name,x.attrs,x.data,x.pub,x.sys)
structure Mv (A A':Ar) (dn:Nat):Prop where
 ok:ArOk A' 0
 le:A.len≤A'.len
 up:A'.len≤A.len+dn
 S:Wt A' gS=Wt A gS
 sm:∀x,(A'.nd x).says=(A.nd x).says
 kd:∀x,A.has x→(A'.nd x).kind=(A.nd x).kind
 inr:∀d,A.inr d≠0→A'.inr d=A.inr d
def Cl (A:Ar):Prop:=∀d,A.inr d≠0→A.inr (A.inr d)≠0
section
variable {A A' A1 A2:Ar} {h d x n p b:Int} {j k:Nat}
theorem Mv.refl (ok:ArOk A 0):Mv A A 0:=⟨ok,Int.le_refl _,by omega,rfl,λ_=>rfl,λ_ _=>rfl,λ_ _=>rfl⟩
theorem Mv.has (g:Mv A A' j) (hz:A.has x):A'.has x:=has_le g.le hz
theorem Mv.trans (g:Mv A A1 j) (q:Mv A1 A2 k):Mv A A2 (j+k):=
 ⟨q.ok,Int.le_trans g.le q.le,by have:=g.up;have:=q.up;omega,q.S.trans g.S,λx=>(q.sm x).trans (g.sm x),λx hx=>(q.kd x (g.has hx)).trans (g.kd x hx),λd hd=>by rw[q.inr d (by rw[g.inr d hd];exact hd),g.inr d hd]⟩
theorem Mv.mono (g:Mv A A' j) (h:j≤k):Mv A A' k:=⟨g.ok,g.le,by have:=g.up;omega,g.S,g.sm,g.kd,g.inr⟩
theorem Mv.lim (g:Mv A A' j) (lm:Lim A) (hn:A.n.length+j≤1000000000):Lim A':=by
 refine⟨?_,λx=>?_,λx=>?_⟩
 ·have:=g.up;unfold Ar.len at this;omega
 ·have:=g.sm x;simp only[ANode.says,Prod.mk.injEq] at this;rw[this.2.1];exact lm.at_ x
 ·have:=g.sm x;simp only[ANode.says,Prod.mk.injEq] at this;rw[this.2.2.1];exact lm.data x
theorem Mv.cut (ok:ArOk A 0) (hh:A.has h) (hk2:(A.nd h).kind≠2):Mv A (A.cut h) 0:=by
 refine⟨ok_cut ok hh hk2,?_,?_,S_cut,λx=>?_,λx _=>?_,λd _=>inr_cut⟩
 ·unfold Ar.len;rw[nlen_cut];exact Int.le_refl _
 ·unfold Ar.len;rw[nlen_cut];omega
 ·rw[nd_cut ok hh];split
  ·rename_i e;rw[e];rfl
  ·split<;>rfl
 ·rw[nd_cut ok hh];split
  ·rename_i e;rw[e]
  ·split<;>rfl
theorem cut_frag (ok:ArOk A 0) (hh:A.has h) (hk2:(A.nd h).kind=2):A.cut h=A:=by have hp:(A.nd h).par=0:=Decidable.byContradiction λhh1=>((ok.nok h hh).root hh1).2 hk2;unfold Ar.cut;simp only;rw[if_pos hp]
theorem Mv.cut' (ok:ArOk A 0) (hh:A.has h):Mv A (A.cut h) 0:=by
 by_cases hk2:(A.nd h).kind=2
 ·rw[cut_frag ok hh hk2];exact .refl ok
 ·exact .cut ok hh hk2
theorem Mv.tput (ok:ArOk A 0):Mv A (A.tput p n b) 0:=by
 have o:=ok_tput ok (p:=p) (n:=n) (b:=b);have s:=S_tput (A:=A) (p:=p) (n:=n) (b:=b);revert o s;unfold Ar.tput;split
 ·rename_i f;intro o s;have g1:=Mv.cut ok f.hn f.kn.2;have hne:n≠p:=by rintro rfl;exact f.re .refl
  have hN:∀z,((A.cut n).ins p n b).nd z=if z=n then{(A.cut n).nd n with par:=p} else if z=p then{(A.cut n).nd p with kids:=insAt ((A.cut n).nd p).kids b n} else(A.cut n).nd z:=λz=>nd_ins (has_cut.2 f.hp) (has_cut.2 f.hn) hne
  refine⟨o,?_,?_,s,λx=>?_,λx hx=>?_,λd hd=>by rw[inr_ins];exact g1.inr d hd⟩
  ·unfold Ar.len;rw[nlen_ins,nlen_cut];exact Int.le_refl _
  ·unfold Ar.len;rw[nlen_ins,nlen_cut];omega
  ·rw[hN,←g1.sm x];split
   ·rename_i e;rw[e];rfl
   ·split
    ·rename_i e;rw[e];rfl
    ·rfl
  ·rw[hN,←g1.kd x hx];split
   ·rename_i e;rw[e]
   ·split
    ·rename_i e;rw[e]
    ·rfl
 ·intro o s;exact .refl ok
theorem Mv.doc (ok:ArOk A 0) (hx:A.has x) (hd:A.has d∧(A.nd d).kind=1) (hk:(A.nd x).kind≠1):Mv A (A.set x {A.nd x with doc:=d}) 0:=by
 have hN:∀z,(A.set x {A.nd x with doc:=d}).nd z=if z=x then{A.nd x with doc:=d} else A.nd z:=λz=>by rw[nd_set];simp[hx]
 have no:=ok.nok x hx;refine⟨ok_set ok hx ⟨no.k,no.kids,no.elem,no.nm,no.dt,no.data,no.quirks,no.sp,no.asp,no.once,no.contT,no.hostF,no.root,no.nod⟩ rfl rfl rfl ⟨hd.1,hd.2,λh=>absurd h hk⟩ rfl rfl id,by rw[len_set];exact Int.le_refl _,by rw[len_set];omega,Wt.same rfl,λz=>?_,λz _=>?_,λq _=>inr_set⟩
 ·rw[hN];split
  ·rename_i e;rw[e];rfl
  ·rfl
 ·rw[hN];split
  ·rename_i e;rw[e]
  ·rfl
theorem Mv.inert (ok:ArOk A 0) (hd:A.has d):Mv A (A.inertA d) (if A.inr d=0 then 1 else 0):=by
 have g:=grow_inert (d:=d) ok.il;obtain⟨o1,_⟩:=ok_inert ok hd (by have:=hd.1;unfold Ar.len;omega);refine⟨o1,g.len,?_,S_inert,λx=>?_,λx hx=>by rw[g.nd' hx],g.inr⟩
 ·rw[len_inert];by_cases h0:A.inr d=0
  ·rw[if_neg (by simp[h0]),if_pos h0];omega
  ·rw[if_pos h0,if_neg h0];omega
 ·by_cases hx:A.has x
  ·rw[g.nd' hx]
  ·rw[nd_no hx];unfold Ar.inertA;split
   ·rw[nd_no hx]
   ·rw[nd_setI,nd_setI,nd_add];split
    ·rfl
    ·rw[nd_no hx]
theorem Cl.inert0 (c:Cl A) (il:A.i.length=A.n.length) (hd:A.has d):Cl (A.inertA d)∧(A.inertA d).inr d=A.inertH d∧A.inertH d≠0∧(A.inertA d).inr (A.inertH d)≠0:=by
 unfold Ar.inertA Ar.inertH;split
 ·rename_i h1;exact⟨c,rfl,h1,c d h1⟩
 ·rename_i h1;have e1:(A.add {kind:=1,doc:=A.len+1}).i.length=(A.add {kind:=1,doc:=A.len+1}).n.length:=il_add' il;have hl:A.len+1≠0:=by have:=hd.1;have:=hd.2;unfold Ar.len;omega
  have hA:∀q,(((A.add {kind:=1,doc:=A.len+1}).setI d (A.len+1)).setI (A.len+1) (A.len+1)).inr q=if q=A.len+1∨q=d then A.len+1 else A.inr q:=λq=>by
   have h2:(A.add {kind:=1,doc:=A.len+1}).has (A.len+1):=has_add.2 (.inr rfl);have h3:(A.add {kind:=1,doc:=A.len+1}).has d:=has_add.2 (.inl hd);rw[inr_setI (il_setI' e1),inr_setI e1,inr_add il];simp only[has_setI,h2,h3,and_true];split
   ·rename_i h4;rw[if_pos (.inl h4)]
   ·split
    ·rename_i h5;rw[if_pos (.inr h5)]
    ·rw[if_neg (by omega)]
  refine⟨λq hq=>?_,?_,hl,?_⟩
  ·rw[hA q] at hq⊢;split at hq
   ·rename_i h4;rw[if_pos h4,hA,if_pos (.inl rfl)];exact hl
   ·rename_i h4;rw[if_neg h4,hA];split
    ·exact hl
    ·exact c q hq
  ·rw[hA,if_pos (.inr rfl)]
  ·rw[hA,if_pos (.inl rfl)];exact hl
theorem Cl.inert (c:Cl A) (ok:ArOk A 0) (hd:A.has d):Cl (A.inertA d)∧(A.inertA d).inr d=A.inertH d∧A.inertH d≠0∧(A.inertA d).inr (A.inertH d)≠0:=c.inert0 ok.il hd
theorem Cl.of (c:Cl A) (h:∀d,A'.inr d=A.inr d):Cl A':=λd hd=>by rw[h d] at hd⊢;rw[h];exact c d hd
end
end Go.Am
end
section
namespace Go.Am
open Go
set_option maxRecDepth 100000
section
variable {h h':AHeap} {a n:Nat} {m:Option Nat} {ps:List PN} {A A':Ar} {sf:Int} {x p c d:Int} {e:Int} {v:AVal} {l:List Int} {F:Nat→Prop}
theorem f411 (w:PA sf h a n m ps A) (lm:Lim A) (ok:ArOk A e) (hx:A.has x):∃r,-1≤r∧r≤1000000000∧Ret cx 128 [.ptr (some (a,0)),.int .i64 x] h (.int .i64 r) h:=by
 have r1:=f193w (x:=x) w lm;have hb:=lm.kids ok;by_cases hp:(A.nd x).par=0
 ·exact⟨-1,by omega,by omega,by rw[ret_iff,t128_eq,t128];simp only[amS,bxS,r1,hp]⟩
 ·obtain⟨hq,hk⟩:=ok.par x hx hp;obtain⟨k,k1,k2,_⟩:=idx_mem hk;have r2:=f34w (w.kid hq).ints (hb (A.nd x).par) x;rw[k2] at r2;exact⟨(k:Int),by omega,by have:=hb (A.nd x).par;omega,by rw[ret_iff,t128_eq,t128];simp only[amS,bxS,r1,hp,f94w w lm hq,w.f2 hq,r2]⟩
theorem f651 (w:PA sf h a n m ps A) (lm:Lim A) (ok:ArOk A e) (hx:A.has x):∃r,Ret cx 95 [.ptr (some (a,0)),.int .i64 x] h (.int .i64 r) h:=by
 have r1:=f193w (x:=x) w lm;have hb:=lm.kids ok;obtain⟨v,r2,hv⟩:=f110w (x:=(A.nd x).par) w lm (hb _);obtain⟨k,k1,k2,r3⟩:=f411 w lm ok hx;have lk:=IsSl.lenM hv;have e1:peval (.int .add) [.int .i64 k,.int .i64 1]=some (.int .i64 (k+1)):=pe_addI (by omega) (by omega);by_cases h1:0<k+1
 ·by_cases h2:k+1<((A.nd (A.nd x).par).kids.length:Int)
  ·obtain⟨j,hj⟩:∃j:Nat,k+1=(j:Int):=⟨(k+1).toNat,by omega⟩;rw[hj] at h1 h2 e1;obtain⟨p',q1,q2⟩:=(IsInts.ints (h:=h) hv).at_ j (by omega);exact⟨_,by rw[ret_iff,t95_eq,t95];simp only[amS,bxS,r1,r2,r3,e1,h1,lk,h2,q1,q2];rfl⟩
  ·exact⟨0,by rw[ret_iff,t95_eq,t95];simp only[amS,bxS,r1,r2,r3,e1,h1,lk,h2]⟩
 ·exact⟨0,by rw[ret_iff,t95_eq,t95];simp only[amS,bxS,r1,r2,r3,e1,h1]⟩
theorem f662 (w:PA sf h a n m ps A) (lm:Lim A) (hkb:∀y,(A.nd y).kids.length≤1000000000):∃v t l,Ret cx 129 [.ptr (some (a,0)),.int .i64 x] h v (h++t)∧IsInts l v∧(l=[x]∨l=(A.nd x).kids):=by
 obtain⟨t,r1⟩:=f626 w lm hkb x;obtain⟨v,r2,hv⟩:=f110w (x:=x) (w.app (t:=t)) lm (hkb _);by_cases k2:(A.nd x).kind=2
 ·exact⟨v,t,_,by rw[ret_iff,t129_eq,t129];simp only[amS,bxS,r1,k2,r2],hv,.inr rfl⟩
 ·exact⟨.sl 1 [[.int .i64 x]],t,[x],by rw[ret_iff,t129_eq,t129];simp only[amS,bxS,r1,k2,pe_mksl_i],.inl rfl,.inl rfl⟩
theorem f650 (w:PA sf h a n m ps A) (lm:Lim A) (ok:ArOk A e):∃r t,Ret cx 94 [.ptr (some (a,0)),.int .i64 p,.int .i64 x,.int .i64 c] h (.int .i64 r) (h++t)∧(r=0→A.has p∧A.has x∧(c=0∨A.has c)):=by
 have hkb:=lm.kids ok;have hv:IsInts [p,x,c] (.sl 1 [[.int .i64 p],[.int .i64 x],[.int .i64 c]]):= .inl rfl;obtain⟨t,r1⟩:=f562g w lm hkb hv (by simp) 2;have em:peval (.mksl 1) [.int .i64 p,.int .i64 x,.int .i64 c]=some (.sl 1 [[.int .i64 p],[.int .i64 x],[.int .i64 c]]):=rfl;by_cases hk:okH A 2 [p,x,c]
 ·rw[if_pos hk] at r1;have h0:=hk 0 (by simp);have h1:=hk 1 (by simp);have h2:=hk 2 (by simp);simp at h0 h1 h2;obtain⟨r,t2,r2⟩:=f653 (c:=c) (w.app (t:=t)) lm ok h1 h0 false;refine⟨r,t++t2,?_,λ_=>⟨h0,h1,h2⟩⟩;rw[ret_iff,t94_eq,t94];simp only[amS,Nat.reduceLeDiff,↓reduceIte,fillAt,bxS,em,r1,ne_eq,eq_self,r2,List.append_assoc]
 ·rw[if_neg hk] at r1;refine⟨3,t,?_,λh=>by omega⟩;rw[ret_iff,t94_eq,t94];simp only[amS,bxS,em,r1,ne_eq,ieq]
theorem E633 (w:PW 0 h F a A) (lm:Lim A) (ok:ArOk A 0) (hx:A.has x):Eff 0 53 [.ptr (some (a,0)),.int .i64 x] h F a λr A'=>r= .tuple []∧Mv A A' 0∧∀d,A'.inr d=A.inr d:=by
 have hkb:=lm.kids ok;obtain⟨n,m,ps,w',rfl⟩:=w.pa_;obtain⟨v,r1,hv⟩:=f110w (x:=x) w' lm (hkb x);have lk:=IsSl.lenM hv;have hev:Ev cx 53 [.ptr (some (a,0)),.int .i64 x] h λr h'=>r= .tuple []∧∃A' F',PW 0 h' F' a A'∧Ext h (λi=>i∈ids a n m ps) h' F'∧Mv A A' 0∧∀d,A'.inr d=A.inr d:=by
  unfold Ev;rw[t53_eq,t53];simp only[amS,bxS,r1,lk];refine W_loop_st (λk:Nat=>[.int .i64 (k:Int)]) (λk h1=>k≤(A.nd x).kids.length∧∃A' F',PW 0 h1 F' a A'∧Ext h (λi=>i∈ids a n m ps) h1 F'∧Mv A A' 0∧∀d,A'.inr d=A.inr d) (λk=>(A.nd x).kids.length-k) 0 rfl ⟨Nat.zero_le _,A,_,w,.refl,.refl ok,λ_=>rfl⟩ ?_;rintro k h1 ⟨hk,A1,F1,w1,x1,g1,i0⟩;rcases Nat.lt_or_ge k (A.nd x).kids.length with hlt|hge
  ·have i1:(k:Int)<((A.nd x).kids.length:Int):=by omega
   have:=hkb x;obtain⟨p',e1,e2⟩:=(IsInts.ints (h:=h1) hv).at_ k hlt;have lm1:=g1.lim lm (by have:=lm.n;omega);obtain⟨r,A2,h2,F2,r2,w2,x2,_,p2⟩:=E542 (x:=(A.nd x).kids[k]) w1 lm1 g1.ok (λhz hp=>by have:=(g1.ok.par _ hz hp).1.1;omega);have g2:Mv A1 A2 0∧∀d,A2.inr d=A1.inr d:=by
    rcases p2 with⟨hz,rfl⟩|⟨_,rfl⟩
    ·exact⟨.cut' g1.ok hz,λ_=>inr_cut⟩
    ·exact⟨.refl g1.ok,λ_=>rfl⟩
   simp only[amS,bxS,i1,e1,e2,r2,pe_incN k];exact LoopPost.next (k+1) rfl ⟨hlt,A2,F2,w2,x1.trans x2,g1.trans g2.1,λd=>(g2.2 d).trans (i0 d)⟩ (by omega)
  ·have i1:¬(k:Int)<((A.nd x).kids.length:Int):=by omega
   simp only[amS,bxS,i1];exact⟨_,rfl,rfl,A1,F1,w1,x1,g1,i0⟩
 obtain⟨r,h',hr,rfl,A',F',w2,x2,g2⟩:=hev.ret;exact⟨_,A',h',F',hr,w2,x2,rfl,g2⟩
end
end Go.Am
end
section
namespace Go.Am
open Go
set_option maxRecDepth 100000
section
variable {A A' A1 A2 B:Ar} {x d:Int} {e:Int}
def lowR (A:Ar) (r:Int→Nat) (x:Int):Nat:=((List.range A.n.length).filter λi:Nat=>decide (r x<r ((i:Int)+1))).length
theorem lowR_le {r:Int→Nat} {x:Int}:lowR A r x≤A.n.length:=by unfold lowR;exact Nat.le_trans (List.length_filter_le _ _) (by simp)
theorem lowR_lt {r:Int→Nat} {x y:Int} (hy:A.has y) (h:r x<r y):lowR A r y<lowR A r x:=by
 unfold lowR;have e1:(List.range A.n.length).filter (λi:Nat=>decide (r y<r ((i:Int)+1)))=((List.range A.n.length).filter λi:Nat=>decide (r x<r ((i:Int)+1))).filter λi:Nat=>decide (r y<r ((i:Int)+1)):=by
  rw[List.filter_filter]
  congr 1
  funext i;by_cases h1:r y<r ((i:Int)+1)
  ·simp[h1,Nat.lt_trans h h1]
  ·simp[h1]
 rw[e1,List.length_filter_lt_length_iff_exists];obtain⟨i,hi⟩:∃i:Nat,y=(i:Int)+1:=⟨y.toNat-1,by have:=hy.1;omega⟩;subst hi;refine⟨i,List.mem_filter.2 ⟨List.mem_range.2 (by have:=hy.2;omega),decide_eq_true h⟩,?_⟩;simp
structure Kd (A A':Ar):Prop where
 le:A.len≤A'.len
 kids:∀x,A.has x→(A'.nd x).kids=(A.nd x).kids
 cont:∀x,A.has x→(A'.nd x).cont=(A.nd x).cont
theorem Kd.refl:Kd A A:=⟨Int.le_refl _,λ_ _=>rfl,λ_ _=>rfl⟩
theorem Kd.has (g:Kd A A') (hx:A.has x):A'.has x:=has_le g.le hx
theorem Kd.trans (g:Kd A A1) (q:Kd A1 A2):Kd A A2:=⟨Int.le_trans g.le q.le,λx hx=>(q.kids x (g.has hx)).trans (g.kids x hx),λx hx=>(q.cont x (g.has hx)).trans (g.cont x hx)⟩
theorem Kd.grow (g:Grow A A'):Kd A A':=⟨g.len,λx hx=>by rw[g.nd' hx],λx hx=>by rw[g.nd' hx]⟩
theorem Kd.doc:Kd A (A.set x {A.nd x with doc:=d}):=by
 refine⟨by rw[len_set];exact Int.le_refl _,λz _=>?_,λz _=>?_⟩<;>rw[nd_set]<;>split<;>rename_i h
 ·rw[h.1]
 ·rfl
 ·rw[h.1]
 ·rfl
def rowsA (A:Ar):Nat→Int→List (Int×List Int)
 |0,_=>[]
 |f+1,x=>(x,(A.nd x).kids)::(A.nd x).kids.flatMap (rowsA A f)
theorem preSL_at {f:Int→Option (List (Int×List Int))} {g:Int→List (Int×List Int)}:∀{ks:List Int},(∀y∈ks,f y=some (g y))→preSL f ks=some (ks.flatMap g)
 |[],_=>rfl
 |y::ks,h=>by unfold preSL;rw[h y (by simp),preSL_at λz hz=>h z (List.mem_cons_of_mem _ hz)];rfl
theorem preS_at {K:Int→Option (List Int)} {r:Int→Nat} (ok:ArOk A e) (hK:∀y,A.has y→K y=some (A.nd y).kids) (hr:∀h,A.has h→A.up h≠0→r (A.up h)<r h):
  ∀{f g:Nat} {x:Int},A.has x→lowR A r x<f→lowR A r x<g→preS K f x=some (rowsA A g x)
 |0,g,x,_,h,_=>by omega
 |f+1,0,x,_,_,h=>by omega
 |f+1,g+1,x,hx,h1,h2=>by
  unfold preS rowsA;rw[hK x hx,Option.bind_some,preSL_at (g:=rowsA A g) λy hy=>?_]
  ·rfl
  obtain⟨h3,h4⟩:=(kin_kids ok hx).2 y hy;have h5:=hr y h3 (by rw[h4];have:=hx.1;omega);rw[h4] at h5;have h6:=lowR_lt (A:=A) (r:=r) h3 h5;exact preS_at ok hK hr h3 (by omega) (by omega)
theorem rows_memT {r:Int→Nat} (ok:ArOk A e) (hr:∀h,A.has h→A.up h≠0→r (A.up h)<r h):
  ∀{f:Nat} {x:Int} {p:Int×List Int},A.has x→p∈rowsA A f x→A.has p.1∧lowR A r p.1≤lowR A r x
 |0,_,_,_,h=>by cases h
 |f+1,x,p,hx,h=>by
  unfold rowsA at h;rcases List.mem_cons.1 h with rfl|h
  ·exact⟨hx,Nat.le_refl _⟩
  ·obtain⟨y,hy,hp⟩:=List.mem_flatMap.1 h;obtain⟨h3,h4⟩:=(kin_kids ok hx).2 y hy;have h5:=hr y h3 (by rw[h4];have:=hx.1;omega);rw[h4] at h5;have h6:=lowR_lt (A:=A) (r:=r) h3 h5;obtain⟨h7,h8⟩:=rows_memT ok hr h3 hp;exact⟨h7,by omega⟩
structure Own (A A':Ar) (d:Int):Prop where
 mv:Mv A A' (if A.inr d=0∧A'.inr d≠0 then 1 else 0)
 kd:Kd A A'
 cl:Cl A'
theorem Own.of (m:Mv A A' 0) (k:Kd A A') (c:Cl A'):Own A A' d:=⟨m.mono (Nat.zero_le _),k,c⟩
theorem Own.refl (ok:ArOk A 0) (c:Cl A):Own A A d:= .of (.refl ok) .refl c
theorem Own.trans (g:Own A A1 d) (q:Own A1 A2 d):Own A A2 d:=by
 have h1:=g.mv.trans q.mv;refine⟨h1.mono ?_,g.kd.trans q.kd,q.cl⟩;by_cases h0:A.inr d=0
 ·by_cases h4:A1.inr d=0
  ·by_cases h5:A2.inr d=0<;>simp[h0,h4,h5]
  ·have h5:A2.inr d≠0:=by rw[q.mv.inr d h4];exact h4
   simp[h0,h4,h5]
 ·have h4:A1.inr d≠0:=by rw[g.mv.inr d h0];exact h0
  simp[h0,h4]
theorem Own.le1 (g:Own A A' d):A'.len≤A.len+1:=by have:=g.mv.up;split at this<;>omega
theorem Own.inert (ok:ArOk A 0) (c:Cl A) (hd:A.has d):Own A (A.inertA d) d:=by
 obtain⟨c1,e1,h1,_⟩:=c.inert ok hd;have m:=Mv.inert ok hd;refine⟨m.mono ?_,.grow (grow_inert ok.il),c1⟩;by_cases h0:A.inr d=0
 ·rw[if_pos h0,if_pos ⟨h0,by rw[e1];exact h1⟩];omega
 ·rw[if_neg h0];omega
structure Owm (A A':Ar) (d:Int):Prop where
 mv:Mv A A' (if A.inr d=0∧A'.inr d≠0 then 1 else 0)
 cl:Cl A'
theorem Own.m (g:Own A A' d):Owm A A' d:=⟨g.mv,g.cl⟩
theorem Owm.of (m:Mv A A' 0) (c:Cl A'):Owm A A' d:=⟨m.mono (Nat.zero_le _),c⟩
theorem Owm.trans (g:Owm A A1 d) (q:Owm A1 A2 d):Owm A A2 d:=by
 have h1:=g.mv.trans q.mv;refine⟨h1.mono ?_,q.cl⟩;by_cases h0:A.inr d=0
 ·by_cases h4:A1.inr d=0
  ·by_cases h5:A2.inr d=0<;>simp[h0,h4,h5]
  ·have h5:A2.inr d≠0:=by rw[q.mv.inr d h4];exact h4
   simp[h0,h4,h5]
 ·have h4:A1.inr d≠0:=by rw[g.mv.inr d h0];exact h0
  simp[h0,h4]
theorem Owm.m1 (g:Owm A A' d):Mv A A' 1:=g.mv.mono (by split<;>omega)
theorem Mv.le1 {k:Nat} (g:Mv A A' 1) (h:A.len+(k+1)≤1000000000):A'.len+k≤1000000000:=by have:=g.up;omega
theorem Mv.lim1 (g:Mv A A' 1) (lm:Lim A) (h:A.len+1≤1000000000):Lim A':=g.lim lm (by unfold Ar.len at h;omega)
theorem Mv.isD {k:Nat} (g:Mv A A' k) (h:A.has d∧(A.nd d).kind=1):A'.has d∧(A'.nd d).kind=1:=⟨g.has h.1,by rw[g.kd d h.1];exact h.2⟩
theorem tput_inr {p x b q:Int}:(A.tput p x b).inr q=A.inr q:=by
 unfold Ar.tput;split
 ·rw[inr_ins,inr_cut]
 ·rfl
end
end Go.Am
end
section
namespace Go.Am
open Go
set_option maxRecDepth 100000
section
variable {h h':AHeap} {a n:Nat} {m:Option Nat} {ps:List PN} {A A' A0:Ar} {sf:Int} {x p c d:Int} {e:Int} {v:AVal} {l:List Int} {F:Nat→Prop} {r:Int→Nat}
theorem intsFrom_w {cs:List AVal}:∀{l:List Int} {pre:List AVal},intsFrom (pre++l.map (AVal.int .i64)++cs) pre.length l.length=some l
 |[],_=>rfl
 |y::l,pre=>by
  have h1:=intsFrom_w (cs:=cs) (l:=l) (pre:=pre++[.int .i64 y]);simp only[List.append_assoc,List.length_append,List.length_singleton,List.singleton_append] at h1;show intsFrom _ _ (l.length+1)=_;have h2:(pre++(y::l).map (AVal.int .i64)++cs)[pre.length]?=some (.int .i64 y):=by simp
  unfold intsFrom;rw[h2];simp only[List.map_cons,List.append_assoc,List.cons_append] at h1⊢;rw[h1];rfl
theorem kidsOf_w (w:PA sf h a n m ps A) (hx:A.has x) (hs:sf<x) (hkb:(A.nd x).kids.length≤1000000000):kidsOf h a x=some (A.nd x).kids:=by
 have hl:x≤(ps.length:Int):=by have:=hx.2;rw[w.nlen] at this;exact this
 have c2:(ps.map PN.row).flatten[0+(x.toNat-1)*13+2]?=some (pN ps x).kv:=w.cell hx (k:=2) (by decide);have hc:=And.intro hx.1 hl;have hh:=w.hs x hs hx.1;unfold kidsOf;simp only[w.ha,w.hn,hc,and_self,↓reduceIte,c2];rcases w.kid hx with⟨e,e2⟩|⟨id,cs,e,e2⟩|e
 ·simp only[e,e2]
 ·have h1:=intsFrom_w (cs:=cs) (l:=(A.nd x).kids) (pre:=[]);rw[List.nil_append] at h1;simp only[e,e2,hkb,↓reduceIte];exact h1
 ·rw[e] at hh;rcases hh with hh|⟨_,_,hh⟩<;>cases hh
theorem gPreS_w (w:PA 0 h a n m ps A) (lm:Lim A) (ok:ArOk A 0) (ok0:ArOk A0 0) (g:Kd A0 A) (hr:∀h,A0.has h→A0.up h≠0→r (A0.up h)<r h) (hx:A0.has x):
  gPreS h [.ptr (some (a,0)),.int .i64 x]=some (h,.sl 1 ((rowsA A0 (A0.n.length+1) x).map λp=>(p.1::p.2).map (.int .i64))):=by
 have hkb:=lm.kids ok;have h1:preS (kidsOf h a) (ps.length+1) x=some (rowsA A0 (A0.n.length+1) x):=by
  refine preS_at ok0 (λy hy=>?_) hr hx ?_ ?_
  ·rw[kidsOf_w w (g.has hy) (by have:=hy.1;omega) (hkb y),g.kids y hy]
  ·have:=lowR_le (A:=A0) (r:=r) (x:=x);have h2:=g.le;rw[←w.nlen];unfold Ar.len at h2;omega
  ·have:=lowR_le (A:=A0) (r:=r) (x:=x);omega
 unfold gPreS;simp only[w.ha,h1]
abbrev capt (a:Nat) (d:Int):List AVal:=[.rptr [.ptr (some (a,0))],.rptr [.int .i64 d]]
def Adopts (A0:Ar) (r:Int→Nat) (a k:Nat):Prop:=∀(A:Ar) (h:AHeap) (F:Nat→Prop) (x d:Int),PW 0 h F a A→Lim A→ArOk A 0→Cl A→Kd A0 A→isDoc A d→A0.has x→(A.nd x).kind=2→lowR A0 r x<k→A.len+(if A.inr d=0 then 1 else 0)+1≤1000000000→
 Eff 0 105 [.ptr (some (a,0)),.int .i64 x,.int .i64 d] h F a λr A'=>r= .tuple []∧Own A A' d
theorem Own.isDoc (g:Own A A' d) (hd:isDoc A c):isDoc A' c:=⟨g.kd.has hd.1,by rw[g.mv.kd c hd.1];exact hd.2⟩
theorem E664 {k:Nat} (ih:Adopts A0 r a k) (ok0:ArOk A0 0) (hr:∀h,A0.has h→A0.up h≠0→r (A0.up h)<r h) (w:PW 0 h F a A) (lm:Lim A) (ok:ArOk A 0) (cl:Cl A) (g:Kd A0 A) (hd:isDoc A d) (hx:A0.has x) (hk:lowR A0 r x≤k)
  (hb:A.len+(if A.inr d=0 then 1 else 0)+1≤1000000000):Eff 0 135 (.int .i64 x::capt a d) h F a λr A'=>r= .tuple []∧Own A A' d:=by
 obtain⟨r1,A1,h1,F1,q1,w1,x1,_,p1⟩:=E658 (x:=x) (d:=d) w lm;have o1:Own A A1 d∧A1.inr d=A.inr d∧A1.len=A.len:=by
  rcases p1 with⟨hz,hd',hk1,rfl⟩|⟨_,rfl⟩
  ·have hi:∀q,(A.set x {A.nd x with doc:=d}).inr q=A.inr q:=λq=>inr_set;exact⟨.of (.doc ok hz hd' hk1) .doc (cl.of hi),hi d,len_set⟩
  ·exact⟨.refl ok cl,rfl,rfl⟩
 obtain⟨o1,i1,l1⟩:=o1;have lm1:Lim A1:=o1.mv.lim lm (by split at hb<;>unfold Ar.len at hb<;>split<;>omega);have ok1:=o1.mv.ok;obtain⟨n1,m1,ps1,w1',rfl⟩:=w1.pa_;obtain⟨rr,t,r2,K,V,rfl,_⟩:=f97w (x:=x) w1' lm1 (lm1.kids ok1 _);have hx1:A1.has x:=(g.trans o1.kd).has hx;have ct:(A1.nd x).cont=(A0.nd x).cont:=(g.trans o1.kd).cont x hx;rw[if_pos hx1] at r2;have lp:∀h (v:AVal),hload h none (.rptr [v])=some v:=λh v=>rfl;have w1a:=w1'.app (t:=t);have x1a:Ext h F (h1++t) (λi=>i∈ids a n1 m1 ps1):=x1.trans .app;by_cases hc:(A1.nd x).cont=0
 ·refine⟨.tuple [],A1,h1++t,_,?_,w1a.pw_,x1a,rfl,o1⟩;rw[ret_iff,t135_eq,t135];simp only[amS,Nat.reduceLeDiff,↓reduceIte,bxS,lp,q1,r2,hc,ne_eq,eq_self]
 ·have hd1:=o1.isDoc hd;have hb1:A1.len+1≤1000000000:=by rw[l1];split at hb<;>omega
  obtain⟨r3,A2,h2,F2,q2,w2,x2,p2⟩:=E645 (d:=d) w1a.pw_ lm1 hb1;rcases p2 with⟨_,rfl,rfl⟩|⟨hn,_⟩
  rotate_left
  ·exact absurd hd1 hn
  have o2:Own A1 (A1.inertA d) d:= .inert ok1 o1.cl hd1.1;obtain⟨c2,e2,ne2,nz2⟩:=o1.cl.inert ok1 hd1.1;obtain⟨_,hdi⟩:=ok_inert ok1 hd1.1 (by have:=hd1.1.1;unfold Ar.len;omega);have hcu:=cont_up ok0 hx (by rw[←ct];exact hc);have hr':=hr _ hcu.1 (by rw[hcu.2.1];have:=hx.1;omega);rw[hcu.2.1] at hr';have lw:=lowR_lt (A:=A0) (r:=r) hcu.1 hr';have lb:(A1.inertA d).len+0+1≤1000000000:=by
   rw[len_inert,l1,i1];split<;>rename_i h0
   ·rw[if_neg h0] at hb;omega
   ·rw[if_pos (Decidable.byContradiction h0)] at hb;omega
  have lm2:Lim (A1.inertA d):=o2.mv.lim lm1 (by have:=lb;have h3:=o2.le1;unfold Ar.len at*;split<;>omega);have hk2:((A1.inertA d).nd (A0.nd x).cont).kind=2:=by have h3:=cont_up (h:=x) o2.mv.ok (o2.kd.has hx1) (by rw[o2.kd.cont x hx1];exact hc);rw[o2.kd.cont x hx1,ct] at h3;exact h3.2.2
  have o3:=ih (A1.inertA d) h2 F2 (A0.nd x).cont (A1.inertH d) w2 lm2 o2.mv.ok c2 ((g.trans o1.kd).trans o2.kd) hdi hcu.1
   hk2 (by omega) (by rw[if_neg nz2];exact lb)
  obtain⟨r4,A3,h3,F3,q3,w3,x3,rfl,o3⟩:=o3;have o3':Own (A1.inertA d) A3 d:= .of (by have:=o3.mv;rwa [if_neg (λh=>nz2 h.1)] at this) o3.kd o3.cl;refine⟨.tuple [],A3,h3,F3,?_,w3,(x1a.trans x2).trans x3,rfl,(o1.trans o2).trans o3'⟩;rw[←ct] at q3;rw[ret_iff,t135_eq,t135];simp only[amS,Nat.reduceLeDiff,↓reduceIte,bxS,lp,q1,r2,hc,ne_eq,q2,q3]
abbrev rowsV (A0:Ar) (x:Int):AVal:= .sl 1 ((rowsA A0 (A0.n.length+1) x).map λp=>(p.1::p.2).map (.int .i64))
theorem own_run {k:Nat} (ih:Adopts A0 r a k) (ok0:ArOk A0 0) (hr:∀h,A0.has h→A0.up h≠0→r (A0.up h)<r h) (hx:A0.has x):
  ∀{L:List (Int×List Int)} {A:Ar} {h:AHeap} {F:Nat→Prop},PW 0 h F a A→Lim A→ArOk A 0→Cl A→Kd A0 A→isDoc A d→(∀p∈L,A0.has p.1∧lowR A0 r p.1≤k)→A.len+(if A.inr d=0 then 1 else 0)+1≤1000000000→
   ∃A' h' F',W cx (ownT 135 (.ptr (some (a,0))) (.int .i64 d) (.int .i64 x) (rowsV A0 x) (L.map λp=>(p.1::p.2).map (.int .i64))) (λx vs h1=>x= .ret∧vs=[.tuple []]∧h1=h') h∧PW 0 h' F' a A'∧Ext h F h' F'∧Own A A' d
 |[],A,h,F,w,_,ok,cl,_,_,_,_=>⟨A,h,F,by simp only[List.map_nil,ownT,amS],w,.refl,.refl ok cl⟩
 |p::L,A,h,F,w,lm,ok,cl,g,hd,hL,hb=>by
  obtain⟨h1,h2⟩:=hL p (by simp);obtain⟨_,A1,h3,F1,r1,w1,x1,rfl,o1⟩:=E664 ih ok0 hr w lm ok cl g hd h1 h2 hb;have hb1:A1.len+(if A1.inr d=0 then 1 else 0)+1≤1000000000:=by
   have:=o1.mv.up;by_cases h4:A.inr d=0
   ·by_cases h5:A1.inr d=0
    ·simp only[h4,h5,ne_eq,not_true,and_false,↓reduceIte,true_and] at*;omega
    ·simp only[h4,h5,ne_eq,not_false_eq_true,and_true,↓reduceIte] at*;omega
   ·have h5:A1.inr d≠0:=by rw[o1.mv.inr d h4];exact h4
    simp only[h4,h5,false_and,↓reduceIte] at*;omega
  have lm1:Lim A1:=o1.mv.lim lm (by have h3:=o1.le1;unfold Ar.len at*;split<;>split at hb<;>omega);have g1:=g.trans o1.kd;obtain⟨n1,m1,ps1,w1',rfl⟩:=w1.pa_;have hg:=gPreS_w w1' lm1 o1.mv.ok ok0 g1 hr hx;obtain⟨A2,h4,F2,hw,w2,x2,o2⟩:=own_run ih ok0 hr hx (L:=L) w1 lm1 o1.mv.ok o1.cl g1 (o1.isDoc hd) (λq hq=>hL q (List.mem_cons_of_mem _ hq)) hb1;refine⟨A2,h4,F2,?_,w2,x1.trans x2,o1.trans o2⟩;simp only[List.map_cons,ownT,amS,targetOf,Nat.reduceLeDiff,↓reduceIte,List.nil_append,List.append_nil,bxS,r1,meval,hg];exact W_same_self.2 hw
def restT (document own:FuncId) (a x d:AVal):IT:= .call document [a,x] λy=> .op (.int .eql) [y,d] λc=> .cnd c (.ret .ret [.tuple []]) (.mem (.custom gPreS) [a,x] λr=>match r with
 | .sl 1 rows=>ownT own a d x r rows
 |_=> .fail)
theorem rest_run {k:Nat} (ih:Adopts A0 r a k) (ok0:ArOk A0 0) (hr:∀h,A0.has h→A0.up h≠0→r (A0.up h)<r h) (w:PW 0 h F a A) (lm:Lim A) (ok:ArOk A 0) (cl:Cl A) (g:Kd A0 A) (hd:isDoc A d) (hx:A0.has x) (hk:lowR A0 r x≤k)
  (hb:A.len+(if A.inr d=0 then 1 else 0)+1≤1000000000):∃A' h' F',W cx (restT 31 135 (.ptr (some (a,0))) (.int .i64 x) (.int .i64 d)) (λx vs h1=>x= .ret∧vs=[.tuple []]∧h1=h') h∧PW 0 h' F' a A'∧Ext h F h' F'∧Own A A' d:=by
 obtain⟨n,m,ps,w',rfl⟩:=w.pa_;obtain⟨t,r1⟩:=f629 w' lm (lm.kids ok) x;have w1:=w'.app (t:=t);by_cases he:(A.nd x).doc=d
 ·refine⟨A,h++t,_,?_,w1.pw_,.app,.refl ok cl⟩;unfold restT;simp only[amS,bxS,r1,he,eq_self]
 ·have hg:=gPreS_w w1 lm ok ok0 g hr hx;obtain⟨A2,h4,F2,hw,w2,x2,o2⟩:=own_run ih ok0 hr hx (d:=d) (L:=rowsA A0 (A0.n.length+1) x) w1.pw_ lm ok cl g hd (λq hq=>by obtain⟨h1,h2⟩:=rows_memT (r:=r) ok0 hr hx hq;exact⟨h1,by omega⟩) hb
  refine⟨A2,h4,F2,?_,w2,Ext.app.trans x2,o2⟩;unfold restT;simp only[amS,bxS,r1,he,meval,hg];exact hw
theorem adopts (ok0:ArOk A0 0) (hr:∀h,A0.has h→A0.up h≠0→r (A0.up h)<r h):∀k,Adopts A0 r a k
 |0=>λ_ _ _ _ _ _ _ _ _ _ _ _ _ hk=>absurd hk (Nat.not_lt_zero _)
 |k+1=>λA h F x d w lm ok cl g hd hx k2 hk hb=>by
  have hz:=g.has hx;obtain⟨r1,A1,h1,F1,q1,w1,x1,_,p1⟩:=E542 (x:=x) w lm ok λ_ hp=>by have:=(ok.par x hz hp).1.1;omega
  rw[cut_frag ok hz k2] at p1;obtain rfl:A1=A:=by rcases p1 with⟨_,e⟩|⟨_,e⟩<;>exact e
  obtain⟨A2,h2,F2,hw,w2,x2,o2⟩:=rest_run (adopts ok0 hr k) ok0 hr w1 lm ok cl g hd hx (by omega) hb;refine⟨.tuple [],A2,h2,F2,?_,w2,x1.trans x2,rfl,o2⟩;rw[ret_iff];show W cx (.call 97 [.ptr (some (a,0)),.int .i64 x] λ_=>restT 31 135 (.ptr (some (a,0))) (.int .i64 x) (.int .i64 d)) _ _;simp only[amS,q1];exact hw
theorem E654 (w:PW 0 h F a A) (lm:Lim A) (ok:ArOk A 0) (cl:Cl A) (hd:isDoc A d) (hx:A.has x) (hb:A.len+2≤1000000000):Eff 0 105 [.ptr (some (a,0)),.int .i64 x,.int .i64 d] h F a λr A'=>r= .tuple []∧Owm A A' d:=by
 obtain⟨r1,A1,h1,F1,q1,w1,x1,_,p1⟩:=E542 (x:=x) w lm ok λ_ hp=>by have:=(ok.par x hx hp).1.1;omega
 obtain rfl:A1=A.cut x:=by
  rcases p1 with⟨_,e⟩|⟨h,_⟩
  ·exact e
  ·exact absurd hx h
 have g1:=Mv.cut' ok hx;have c1:Cl (A.cut x):=cl.of λd=>inr_cut;have l1:(A.cut x).len=A.len:=by unfold Ar.len;rw[nlen_cut]
 have lm1:Lim (A.cut x):=g1.lim lm (by unfold Ar.len at hb;omega);obtain⟨r,hr⟩:=g1.ok.rank;obtain⟨A2,h2,F2,hw,w2,x2,o2⟩:=rest_run (adopts g1.ok hr (lowR (A.cut x) r x)) g1.ok hr w1 lm1 g1.ok c1 .refl ⟨g1.has hd.1,by rw[g1.kd d hd.1];exact hd.2⟩ (g1.has hx) (Nat.le_refl _) (by rw[l1];split<;>omega);refine⟨.tuple [],A2,h2,F2,?_,w2,x1.trans x2,rfl,(Owm.of g1 c1).trans o2.m⟩
 ·rw[ret_iff];show W cx (.call 97 [.ptr (some (a,0)),.int .i64 x] λ_=>restT 31 135 (.ptr (some (a,0))) (.int .i64 x) (.int .i64 d)) _ _;simp only[amS,q1];exact hw
end
end Go.Am
end
section
namespace Go.Am
open Go
set_option maxRecDepth 100000
def Mov (A:Ar) (r:AVal) (A':Ar):Prop:=(∃e,r= .int .i64 e)∧Mv A A' 1∧Cl A'
section
variable {h h':AHeap} {a n:Nat} {m:Option Nat} {ps:List PN} {A A' A0:Ar} {sf:Int} {x p c d:Int} {e:Int} {v:AVal} {l:List Int} {F:Nat→Prop}
theorem cut_hard (ok:ArOk A 0):A.has x→(A.nd x).par≠0→0<(A.nd x).par:=λhx hp=>by have:=(ok.par x hx hp).1.1;omega
theorem E652 (w:PW 0 h F a A) (lm:Lim A) (ok:ArOk A 0) (cl:Cl A) (hp:A.has p) (hx:A.has x) (hb:A.len+3≤1000000000):
  Eff 0 96 [.ptr (some (a,0)),.int .i64 p,.int .i64 x,.int .i64 c] h F a λr A'=>r= .tuple []∧Mv A A' 1∧Cl A':=by
 obtain⟨n,m,ps,w',rfl⟩:=w.pa_;have hkb:=lm.kids ok;obtain⟨t,r1⟩:=f629 w' lm hkb p;obtain⟨v,t2,l,r2,hv,hl⟩:=f662 (x:=x) (w'.app (t:=t)) lm hkb;have w1:=(w'.app (t:=t)).app (t:=t2);have hd:=ok.doc p hp;have hll:l.length≤1000000000∧∀y∈l,A.has y:=by
  rcases hl with rfl|rfl
  ·exact⟨by simp,λy hy=>by rw[List.mem_singleton.1 hy];exact hx⟩
  ·exact⟨hkb x,λy hy=>(ok.kid x hx y hy).1⟩
 have lk:=IsSl.lenM hv;have hev:Ev cx 96 [.ptr (some (a,0)),.int .i64 p,.int .i64 x,.int .i64 c] h λr h'=>r= .tuple []∧∃A' F',PW 0 h' F' a A'∧Ext h (λi=>i∈ids a n m ps) h' F'∧Owm A A' (A.nd p).doc:=by
  unfold Ev;rw[t96_eq,t96];simp only[amS,Nat.reduceLeDiff,↓reduceIte,bxS,r1,r2,lk];refine W_loop_st (λk:Nat=>[.int .i64 (k:Int)]) (λk h1=>k≤l.length∧∃A' F',PW 0 h1 F' a A'∧Ext h (λi=>i∈ids a n m ps) h1 F'∧Owm A A' (A.nd p).doc) (λk=>l.length-k) 0 rfl ⟨Nat.zero_le _,A,_,w1.pw_,by rw[List.append_assoc];exact .app,.of (.refl ok) cl⟩ ?_;rintro k h1 ⟨hk,A1,F1,w1,x1,g1⟩;rcases Nat.lt_or_ge k l.length with hlt|hge
  ·have i1:(k:Int)<(l.length:Int):=by omega
   obtain⟨p',e1,e2⟩:=(IsInts.ints (h:=h1) hv).at_ k hlt;have lm1:=g1.m1.lim1 lm (by omega);obtain⟨_,A2,h2,F2,r2,w2,x2,rfl,g2⟩:=E654 w1 lm1 g1.mv.ok g1.cl (g1.mv.isD hd) (g1.mv.has (hll.2 _ (List.getElem_mem hlt))) (g1.m1.le1 hb);have g2':=g1.trans g2;have lm2:=g2'.m1.lim1 lm (by omega);obtain⟨_,A3,h3,F3,r3,w3,x3,_,rfl⟩:=E112 (p:=p) (x:=l[k]) (b:=c) w2 lm2 g2.mv.ok λhp hx=>⟨by have:=hp.1;omega,cut_hard g2.mv.ok hx⟩;simp only[amS,bxS,i1,e1,e2,r2,r3,pe_incN k];exact LoopPost.next (k+1) rfl ⟨hlt,_,F3,w3,(x1.trans x2).trans x3,g2'.trans (.of (.tput g2.mv.ok) (g2.cl.of λ_=>tput_inr))⟩ (by omega)
  ·have i1:¬(k:Int)<(l.length:Int):=by omega
   simp only[amS,bxS,i1];exact⟨_,rfl,rfl,A1,F1,w1,x1,g1⟩
 obtain⟨r,h',hr,rfl,A',F',w2,x2,g2⟩:=hev.ret;exact⟨_,A',h',F',hr,w2,x2,rfl,g2.m1,g2.cl⟩
theorem Mov.same {z:Int} (ok:ArOk A 0) (cl:Cl A):Mov A (.int .i64 z) A:=⟨⟨z,rfl⟩,(Mv.refl ok).mono (Nat.zero_le _),cl⟩
theorem E632 (w:PW 0 h F a A) (lm:Lim A) (ok:ArOk A 0) (cl:Cl A) (hb:A.len+3≤1000000000):
  Eff 0 51 [.ptr (some (a,0)),.int .i64 p,.int .i64 x,.int .i64 c] h F a (Mov A):=by
 obtain⟨n,m,ps,w',rfl⟩:=w.pa_;obtain⟨r,t,r1,h1⟩:=f650 (p:=p) (x:=x) (c:=c) w' lm ok;have w1:=(w'.app (t:=t)).pw_;by_cases h0:r=0
 ·obtain⟨hp,hx,_⟩:=h1 h0;subst h0;by_cases hc:c=x
  ·subst hc;obtain⟨y,r2⟩:=f651 (w'.app (t:=t)) lm ok hx;obtain⟨_,A2,h2,F2,r3,w2,x2,rfl,g2⟩:=E652 (p:=p) (x:=c) (c:=y) w1 lm ok cl hp hx hb;refine⟨I 0,A2,h2,F2,?_,w2,Ext.app.trans x2,⟨_,rfl⟩,g2⟩;rw[ret_iff,t51_eq,t51];simp only[amS,Nat.reduceLeDiff,↓reduceIte,bxS,r1,ne_eq,eq_self,r2,r3]
  ·obtain⟨_,A2,h2,F2,r3,w2,x2,rfl,g2⟩:=E652 (p:=p) (x:=x) (c:=c) w1 lm ok cl hp hx hb;refine⟨I 0,A2,h2,F2,?_,w2,Ext.app.trans x2,⟨_,rfl⟩,g2⟩;rw[ret_iff,t51_eq,t51];simp only[amS,Nat.reduceLeDiff,↓reduceIte,bxS,r1,ne_eq,eq_self,hc,r3]
 ·refine⟨.int .i64 r,A,h++t,_,?_,w1,.app,.same ok cl⟩;rw[ret_iff,t51_eq,t51];simp only[amS,Nat.reduceLeDiff,↓reduceIte,bxS,r1,ne_eq,h0]
theorem E623 (w:PW 0 h F a A) (lm:Lim A) (ok:ArOk A 0) (cl:Cl A) (hb:A.len+3≤1000000000):
  Eff 0 20 [.ptr (some (a,0)),.int .i64 p,.int .i64 x] h F a (Mov A):=by
 obtain⟨_,A2,h2,F2,r3,w2,x2,⟨e,rfl⟩,g2⟩:=E632 (p:=p) (x:=x) (c:=0) w lm ok cl hb;refine⟨.int .i64 e,A2,h2,F2,?_,w2,x2,⟨_,rfl⟩,g2⟩;rw[ret_iff,t20_eq,t20];simp only[amS,Nat.reduceLeDiff,↓reduceIte,bxS,r3]
theorem em3 {x y z:Int}:peval (.mksl 1) [.int .i64 x,.int .i64 y,.int .i64 z]=some (.sl 1 [[.int .i64 x],[.int .i64 y],[.int .i64 z]]):=rfl
theorem em2 {x y:Int}:peval (.mksl 1) [.int .i64 x,.int .i64 y]=some (.sl 1 [[.int .i64 x],[.int .i64 y]]):=rfl
theorem em1 {x:Int}:peval (.mksl 1) [.int .i64 x]=some (.sl 1 [[.int .i64 x]]):=rfl
theorem E634 (w:PW 0 h F a A) (lm:Lim A) (ok:ArOk A 0) (cl:Cl A) (hb:A.len+3≤1000000000):
  Eff 0 56 [.ptr (some (a,0)),.int .i64 p,.int .i64 x,.int .i64 c] h F a (Mov A):=by
 obtain⟨n,m,ps,w',rfl⟩:=w.pa_;have hkb:=lm.kids ok;have hv:IsInts [p,x,c] (.sl 1 [[.int .i64 p],[.int .i64 x],[.int .i64 c]]):= .inl rfl;obtain⟨t,r1⟩:=f562g w' lm hkb hv (by simp) (-1);have w1:=w'.app (t:=t);by_cases hk:okH A (-1) [p,x,c]
 ·rw[if_pos hk] at r1;have h0:=hk 0 (by simp);have h1:=hk 1 (by simp);have h2:=hk 2 (by simp);simp at h0 h1 h2;obtain⟨r,t2,r2⟩:=f653 (c:=c) w1 lm ok h1 h0 true;have w2:=w1.app (t:=t2);by_cases hr:r=0
  ·subst hr;obtain⟨y,r3⟩:=f651 (x:=c) w2 lm ok h2;obtain⟨z,r3'⟩:=f651 (x:=x) w2 lm ok h1;obtain⟨_,A1,h3,F1,r4,w3,x3,_,p1⟩:=E542 (x:=c) w2.pw_ lm ok (cut_hard ok);obtain rfl:A1=A.cut c:=by
    rcases p1 with⟨_,e⟩|⟨h,_⟩
    ·exact e
    ·exact absurd h2 h
   have g1:=Mv.cut' ok h2;have l1:(A.cut c).len=A.len:=by unfold Ar.len;rw[nlen_cut]
   have lm1:=g1.lim lm (by have:=lm.n;omega);have c1:Cl (A.cut c):=cl.of λd=>inr_cut;by_cases hy:y=x
   ·subst hy;obtain⟨_,A2,h4,F2,r5,w4,x4,rfl,g2,c2⟩:=E652 (p:=p) (x:=y) (c:=z) w3 lm1 g1.ok c1 (g1.has h0) (g1.has h1) (by rw[l1];exact hb);refine⟨I 0,A2,h4,F2,?_,w4,Ext.trans (by rw[List.append_assoc];exact .app) (x3.trans x4),⟨_,rfl⟩,(g1.trans g2).mono (by omega),c2⟩;rw[ret_iff,t56_eq,t56];simp only[amS,Nat.reduceLeDiff,↓reduceIte,fillAt,bxS,em3,r1,ne_eq,eq_self,r2,r3,r3',r4,r5]
   ·obtain⟨_,A2,h4,F2,r5,w4,x4,rfl,g2,c2⟩:=E652 (p:=p) (x:=x) (c:=y) w3 lm1 g1.ok c1 (g1.has h0) (g1.has h1) (by rw[l1];exact hb);refine⟨I 0,A2,h4,F2,?_,w4,Ext.trans (by rw[List.append_assoc];exact .app) (x3.trans x4),⟨_,rfl⟩,(g1.trans g2).mono (by omega),c2⟩;rw[ret_iff,t56_eq,t56];simp only[amS,Nat.reduceLeDiff,↓reduceIte,fillAt,bxS,em3,r1,ne_eq,eq_self,r2,r3,hy,r4,r5]
  ·refine⟨.int .i64 r,A,_,_,?_,w2.pw_,by rw[List.append_assoc];exact .app,.same ok cl⟩;rw[ret_iff,t56_eq,t56];simp only[amS,Nat.reduceLeDiff,↓reduceIte,fillAt,bxS,em3,r1,ne_eq,eq_self,r2,hr]
 ·rw[if_neg hk] at r1;refine⟨I 3,A,_,_,?_,w1.pw_,.app,.same ok cl⟩;rw[ret_iff,t56_eq,t56];simp only[amS,bxS,em3,r1,ne_eq,ieq]
theorem E635 (w:PW 0 h F a A) (lm:Lim A) (ok:ArOk A 0) (cl:Cl A):
  Eff 0 57 [.ptr (some (a,0)),.int .i64 p,.int .i64 x] h F a (Mov A):=by
 obtain⟨n,m,ps,w',rfl⟩:=w.pa_;have hkb:=lm.kids ok;have hv:IsInts [p,x] (.sl 1 [[.int .i64 p],[.int .i64 x]]):= .inl rfl;obtain⟨t,r1⟩:=f562g w' lm hkb hv (by simp) (-1);have w1:=w'.app (t:=t);by_cases hk:okH A (-1) [p,x]
 ·rw[if_pos hk] at r1;have h1:=hk 1 (by simp);simp at h1;have r2:=f193w (x:=x) w1 lm;by_cases hq:(A.nd x).par=p
  ·obtain⟨_,A1,h3,F1,r4,w3,x3,⟨e,rfl⟩,p1⟩:=E542 (x:=x) w1.pw_ lm ok (cut_hard ok);obtain rfl:A1=A.cut x:=by
    rcases p1 with⟨_,e⟩|⟨h,_⟩
    ·exact e
    ·exact absurd h1 h
   refine⟨.int .i64 e,_,h3,F1,?_,w3,Ext.app.trans x3,⟨_,rfl⟩,(Mv.cut' ok h1).mono (by omega),cl.of λd=>inr_cut⟩;rw[ret_iff,t57_eq,t57];simp only[amS,bxS,em2,r1,ne_eq,eq_self,r2,hq,r4]
  ·refine⟨I 5,A,_,_,?_,w1.pw_,.app,.same ok cl⟩;rw[ret_iff,t57_eq,t57];simp only[amS,bxS,em2,r1,ne_eq,eq_self,r2,hq]
 ·rw[if_neg hk] at r1;refine⟨I 3,A,_,_,?_,w1.pw_,.app,.same ok cl⟩;rw[ret_iff,t57_eq,t57];simp only[amS,bxS,em2,r1,ne_eq,ieq]
theorem E636 (w:PW 0 h F a A) (lm:Lim A) (ok:ArOk A 0) (cl:Cl A):
  Eff 0 58 [.ptr (some (a,0)),.int .i64 x] h F a (Mov A):=by
 obtain⟨n,m,ps,w',rfl⟩:=w.pa_;have hkb:=lm.kids ok;have hv:IsInts [x] (.sl 1 [[.int .i64 x]]):= .inl rfl;obtain⟨t,r1⟩:=f562g w' lm hkb hv (by simp) (-1);have w1:=w'.app (t:=t);by_cases hk:okH A (-1) [x]
 ·rw[if_pos hk] at r1;have h1:=hk 0 (by simp);simp at h1;obtain⟨_,A1,h3,F1,r4,w3,x3,⟨e,rfl⟩,p1⟩:=E542 (x:=x) w1.pw_ lm ok (cut_hard ok);obtain rfl:A1=A.cut x:=by
   rcases p1 with⟨_,e⟩|⟨h,_⟩
   ·exact e
   ·exact absurd h1 h
  refine⟨.int .i64 e,_,h3,F1,?_,w3,Ext.app.trans x3,⟨_,rfl⟩,(Mv.cut' ok h1).mono (by omega),cl.of λd=>inr_cut⟩;rw[ret_iff,t58_eq,t58];simp only[amS,bxS,em1,r1,ne_eq,eq_self,r4]
 ·rw[if_neg hk] at r1;refine⟨I 3,A,_,_,?_,w1.pw_,.app,.same ok cl⟩;rw[ret_iff,t58_eq,t58];simp only[amS,bxS,em1,r1,ne_eq,ieq]
theorem E638 (w:PW 0 h F a A) (lm:Lim A) (ok:ArOk A 0) (cl:Cl A) (hb:A.len+2≤1000000000):
  Eff 0 60 [.ptr (some (a,0)),.int .i64 x,.int .i64 d] h F a (Mov A):=by
 obtain⟨n,m,ps,w',rfl⟩:=w.pa_;have hkb:=lm.kids ok;have hv:IsInts [x,d] (.sl 1 [[.int .i64 x],[.int .i64 d]]):= .inl rfl;obtain⟨t,r1⟩:=f562g w' lm hkb hv (by simp) (-1);have w1:=w'.app (t:=t);by_cases hk:okH A (-1) [x,d]
 ·rw[if_pos hk] at r1;have h0:=hk 0 (by simp);have h1:=hk 1 (by simp);simp at h0 h1;obtain⟨rr,t2,r2,K,V,rfl,_⟩:=f97w (x:=x) w1 lm (hkb _);have w2:=w1.app (t:=t2);obtain⟨t3,r3⟩:=f626 w2 lm hkb d;have w3:=w2.app (t:=t3);have x3:Ext h (λi=>i∈ids a n m ps) (h++t++t2++t3) (λi=>i∈ids a n m ps):=by rw[List.append_assoc,List.append_assoc];exact .app
  rw[if_pos h0] at r2;by_cases kd:(A.nd d).kind=1
  ·by_cases kx:(A.nd x).kind=1
   ·refine⟨I 9,A,_,_,?_,w3.pw_,x3,.same ok cl⟩;rw[ret_iff,t60_eq,t60];simp only[amS,Nat.reduceLeDiff,↓reduceIte,bxS,em2,r1,ne_eq,eq_self,r2,r3,kd,kx]
   ·by_cases hh:(A.nd x).host=0
    ·obtain⟨_,A2,h4,F2,r5,w4,x4,rfl,g2⟩:=E654 w3.pw_ lm ok cl ⟨h1,kd⟩ h0 hb;refine⟨I 0,A2,_,_,?_,w4,x3.trans x4,⟨_,rfl⟩,g2.m1,g2.cl⟩;rw[ret_iff,t60_eq,t60];simp only[amS,Nat.reduceLeDiff,↓reduceIte,bxS,em2,r1,ne_eq,eq_self,r2,r3,kd,kx,hh,r5]
    ·refine⟨I 9,A,_,_,?_,w3.pw_,x3,.same ok cl⟩;rw[ret_iff,t60_eq,t60];simp only[amS,Nat.reduceLeDiff,↓reduceIte,bxS,em2,r1,ne_eq,eq_self,r2,r3,kd,kx,hh]
  ·refine⟨I 9,A,_,_,?_,w3.pw_,x3,.same ok cl⟩;rw[ret_iff,t60_eq,t60];simp only[amS,Nat.reduceLeDiff,↓reduceIte,bxS,em2,r1,ne_eq,eq_self,r2,r3,kd]
 ·rw[if_neg hk] at r1;refine⟨I 3,A,_,_,?_,w1.pw_,.app,.same ok cl⟩;rw[ret_iff,t60_eq,t60];simp only[amS,bxS,em2,r1,ne_eq,ieq]
end
end Go.Am
end
section
namespace Go.Am
open Go
set_option maxRecDepth 100000
def okN (k:Nat) (x:ANode):Prop:=x.attrs.length≤k∧(∀y∈x.attrs,y.name.length≤400∧y.value.length≤400)∧x.name.length≤400∧x.pub.length≤400∧x.sys.length≤400
def Bnd (A:Ar) (k:Nat):Prop:=∀x,okN k (A.nd x)
structure Ste (A A':Ar) (dn ds db:Nat):Prop where
 ok:ArOk A' 0
 cl:Cl A'
 le:A.len≤A'.len
 up:A'.len≤A.len+dn
 S:Wt A' gS≤Wt A gS+ds
 bn:∀k,20≤k→Bnd A k→Bnd A' (k+db)
structure Roo (A:Ar):Prop where
 n:A.n.length≤900000000
 S:Wt A gS≤19000000000000
 bn:Bnd A 100
section
variable {A A' A1 A2:Ar} {h d x n p b:Int} {j k:Nat} {y:ANode} {dn ds db dn2 ds2 db2:Nat} {s:Bytes} {l:List Attr}
theorem okN.zero:okN k {}:=⟨Nat.zero_le _,λ_ h=>(by cases h),Nat.zero_le _,Nat.zero_le _,Nat.zero_le _⟩
theorem okN.mono (o:okN j y) (h:j≤k):okN k y:=⟨Nat.le_trans o.1 h,o.2⟩
theorem Bnd.mono (o:Bnd A j) (h:j≤k):Bnd A k:=λx=>(o x).mono h
theorem Bnd.add (o:Bnd A k) (h:okN k y):Bnd (A.add y) k:=λx=>by rw[nd_add];split;exact h;exact o x
theorem Bnd.set (o:Bnd A k) (hy:okN k y):Bnd (A.set h y) k:=λx=>by rw[nd_set];split;exact hy;exact o x
theorem Bnd.setI (o:Bnd A k):Bnd (A.setI h d) k:=λx=>by rw[nd_setI];exact o x
theorem Bnd.inert (o:Bnd A k):Bnd (A.inertA d) k:=by
 unfold Ar.inertA;split
 ·exact o
 ·exact .setI (.setI (.add o ⟨Nat.zero_le _,λ_ h=>(by cases h),Nat.zero_le _,Nat.zero_le _,Nat.zero_le _⟩))
theorem Bnd.of (o:Bnd A k) (h:∀x,(A'.nd x).says=(A.nd x).says):Bnd A' k:=λx=>by have:=h x;simp only[ANode.says,Prod.mk.injEq] at this;obtain⟨h1,h2,h3,h4,h5⟩:=this;unfold okN;rw[h1,h2,h4,h5];exact o x
theorem Bnd.elem {sp:Int} {nm:Bytes} (o:Bnd A k) (hn:nm.length≤400) (hl:l.length≤k) (ha:∀y∈l,y.name.length≤400∧y.value.length≤400):Bnd (A.elem d sp nm l) k:=by
 have hx:okN k {kind:=4,doc:=d,space:=sp,name:=nm,attrs:=once l}:=⟨Nat.le_trans once_le hl,λy hy=>ha y (once_mem hy),hn,Nat.zero_le _,Nat.zero_le _⟩;unfold Ar.elem;simp only;split
 ·exact .set (.add (.inert (.add o hx)) ⟨Nat.zero_le _,λ_ h=>(by cases h),Nat.zero_le _,Nat.zero_le _,Nat.zero_le _⟩) hx
 ·exact .add o hx
theorem Cl.add (c:Cl A) (il:A.i.length=A.n.length):Cl (A.add y):=c.of λ_=>inr_add il
theorem Cl.elem {sp:Int} {nm:Bytes} (c:Cl A) (ok:ArOk A 0) (hd:A.has d):Cl (A.elem d sp nm l):=by
 unfold Ar.elem;simp only;split
 ·have il1:(A.add {kind:=4,doc:=d,space:=sp,name:=nm,attrs:=once l}).i.length=(A.add {kind:=4,doc:=d,space:=sp,name:=nm,attrs:=once l}).n.length:=il_add' ok.il;exact((((c.add ok.il).inert0 il1 (has_add.2 (.inl hd))).1.add (il_inert' il1)).of λ_=>inr_set)
 ·exact c.add ok.il
theorem Ste.refl (ok:ArOk A 0) (c:Cl A):Ste A A 0 0 0:=⟨ok,c,Int.le_refl _,by omega,Nat.le_refl _,λ_ _ h=>h⟩
theorem Ste.has (g:Ste A A' dn ds db) (hx:A.has x):A'.has x:=has_le g.le hx
theorem Ste.trans (g:Ste A A1 dn ds db) (q:Ste A1 A2 dn2 ds2 db2):Ste A A2 (dn+dn2) (ds+ds2) (db+db2):=
 ⟨q.ok,q.cl,Int.le_trans g.le q.le,by have:=g.up;have:=q.up;omega,by have:=g.S;have:=q.S;omega,λk hk h=>by have:=q.bn _ (by omega) (g.bn k hk h);rwa [Nat.add_assoc] at this⟩
theorem Ste.mono (g:Ste A A' dn ds db) (h1:dn≤dn2) (h2:ds≤ds2) (h3:db≤db2):Ste A A' dn2 ds2 db2:=
 ⟨g.ok,g.cl,g.le,by have:=g.up;omega,by have:=g.S;omega,λk hk h=>(g.bn k hk h).mono (by omega)⟩
theorem Ste.of (g:Mv A A' dn) (c:Cl A'):Ste A A' dn 0 0:=⟨g.ok,c,g.le,g.up,Nat.le_of_eq g.S,λ_ _ h=>h.of g.sm⟩
theorem le_S (hx:A.has x):(A.nd x).data.length≤Wt A gS:=by have:=Wt.set (x:={}) (g:=gS) hx;have e:gS ({}:ANode)=0:=rfl;rw[e] at this;show gS (A.nd x)≤_;omega
theorem Roo.lim (o:Roo A):Lim A:=⟨by have:=o.n;omega,λx=>by have:=(o.bn x).1;omega,λx=>by
 by_cases hx:A.has x
 ·have:=le_S hx;have:=o.S;omega
 ·rw[nd_no hx];exact Nat.zero_le _⟩
theorem Ste.lim (g:Ste A A' dn ds db) (o:Roo A) (h1:dn≤1000) (h2:ds≤1000) (h3:db≤1000):Lim A':=by
 have hb:=g.bn 100 (by omega) o.bn;refine⟨?_,λx=>by have:=(hb x).1;omega,λx=>?_⟩
 ·have:=g.up;have:=o.n;unfold Ar.len at*;omega
 ·by_cases hx:A'.has x
  ·have:=le_S hx;have:=o.S;have:=g.S;omega
  ·rw[nd_no hx];exact Nat.zero_le _
theorem Roo.len (o:Roo A):A.len+100≤1000000000:=by have:=o.n;unfold Ar.len;omega
theorem Ste.len (g:Ste A A' dn ds db) (o:Roo A) (h1:dn≤1000):A'.len+100≤1000000000:=by have:=g.up;have:=o.n;unfold Ar.len at*;omega
theorem Ste.data (ok:ArOk A 0) (c:Cl A) (hx:A.has x) (hk:(A.nd x).kind=5∨(A.nd x).kind=6):Ste A (A.setData x s) 0 s.length 0:=by
 refine⟨ok_setData ok hx hk,c.of λ_=>inr_set,?_,?_,?_,λk _ o=>?_⟩
 ·unfold Ar.setData;rw[len_set];exact Int.le_refl _
 ·unfold Ar.setData;rw[len_set];omega
 ·have:=Wt.set (x:={A.nd x with data:=s}) (g:=gS) hx;have e:gS {A.nd x with data:=s}=s.length:=rfl;unfold Ar.setData;omega
 ·exact .set o (o x)
theorem Ste.attrs (ok:ArOk A 0) (c:Cl A) (hx:A.has x) (hk:(A.nd x).kind=4) (hs:∀a∈l,0≤a.space∧a.space≤7) (hl:∀k,20≤k→Bnd A k→l.length≤k+db∧∀y∈l,y.name.length≤400∧y.value.length≤400):Ste A (A.setAttrs x l) 0 0 db:=by
 refine⟨ok_setAttrs ok hx hk hs,c.of λ_=>inr_set,?_,?_,?_,λk h0 o=>?_⟩
 ·unfold Ar.setAttrs;rw[len_set];exact Int.le_refl _
 ·unfold Ar.setAttrs;rw[len_set];omega
 ·unfold Ar.setAttrs;exact Nat.le_of_eq (Wt.same (x:={A.nd x with attrs:=once l}) rfl)
 ·obtain⟨h1,h2⟩:=hl k h0 o;exact .set (o.mono (by omega)) ⟨Nat.le_trans once_le h1,λy hy=>h2 y (once_mem hy),(o x).2.2⟩
theorem Ste.quirks {q:Bool} (ok:ArOk A 0) (c:Cl A) (hx:A.has x) (hk:(A.nd x).kind=1):Ste A (A.set x {A.nd x with quirks:=q}) 0 0 0:=by
 have no:=ok.nok x hx;have hd:=ok.docD x hx hk;refine⟨ok_set ok hx ⟨no.k,no.kids,no.elem,no.nm,no.dt,no.data,λh=>absurd hk h,no.sp,no.asp,no.once,no.contT,no.hostF,no.root,no.nod⟩ rfl rfl rfl ⟨?_,?_,λ_=>hd⟩ rfl rfl id,c.of λ_=>inr_set,?_,?_,?_,λk h0 o=>?_⟩
 ·exact(ok.doc x hx).1
 ·exact(ok.doc x hx).2
 ·rw[len_set];exact Int.le_refl _
 ·rw[len_set];omega
 ·exact Nat.le_of_eq (Wt.same (x:={A.nd x with quirks:=q}) rfl)
 ·exact .set o (o x)
theorem Ste.add (ok:ArOk A 0) (c:Cl A) (hx:NOk y) (hd:(y.kind=1∧y.doc=A.len+1)∨(y.kind≠1∧A.has y.doc∧(A.nd y.doc).kind=1)) (h1:y.par=0) (h2:y.kids=[]) (h3:y.cont=0) (h4:y.host=0) (h5:y.kind≠4) (hb:okN 20 y):Ste A (A.add y) 1 y.data.length 0:=by
 refine⟨ok_add ok hx hd h1 h2 h3 h4 (λhT=>absurd hT.1 h5),c.add ok.il,?_,?_,?_,λk h0 o=> .add o (hb.mono h0)⟩
 ·rw[len_add];omega
 ·rw[len_add];omega
 ·rw[Wt.add];exact Nat.le_refl _
theorem Ste.elem {sp:Int} {nm:Bytes} (ok:ArOk A 0) (c:Cl A) (hd:A.has d∧(A.nd d).kind=1) (hs:0≤sp∧sp≤7) (hl:∀a∈l,0≤a.space∧a.space≤7) (hn:nm.length≤400) (h20:l.length≤20) (ha:∀y∈l,y.name.length≤400∧y.value.length≤400):Ste A (A.elem d sp nm l) 3 0 0:=by obtain⟨l1,l2⟩:=len_elem (A:=A) (d:=d) (sp:=sp) (nm:=nm) (l:=l);exact⟨ok_elem ok hd hs hl,c.elem ok hd.1,by omega,by omega,Nat.le_of_eq S_elem,λk h0 o=> .elem o hn (by omega) ha⟩
theorem Ste.inert (ok:ArOk A 0) (c:Cl A) (hd:A.has d):Ste A (A.inertA d) 1 0 0:= .of ((Mv.inert ok hd).mono (by split<;>omega)) (c.inert ok hd).1
end
end Go.Am
end
section
namespace Go.Am
open Go
set_option maxRecDepth 100000
def Pr (F:AVal):Prop:=∃f caps,F= .func (.func f) [] caps∧f≤99999∧∀(c:Int) (h:AHeap),∃b,Ret cx f (.int .i32 c::caps) h (.bool b) h
section
variable {h h':AHeap} {s:Bytes} {v F:AVal}
theorem f300 (a b:Int) (h:AHeap):Ret cx 90 [.int .i32 a,.int .i32 b] h (.func (.func 125) [] [.rptr [.int .i32 a],.rptr [.int .i32 b]]) h:=by rw[ret_iff,t90_eq,t90];simp only[amS]
theorem f311 (c a b:Int) (h:AHeap):Ret cx 125 [.int .i32 c,.rptr [.int .i32 a],.rptr [.int .i32 b]] h (.bool (decide (a≤c∧c≤b))) h:=by
 rw[ret_iff,t125_eq,t125];simp only[amS]
 grind
theorem Pr.from (a b:Int):Pr (.func (.func 125) [] [.rptr [.int .i32 a],.rptr [.int .i32 b]]):=⟨_,_,rfl,by decide,λc h=>⟨_,f311 c a b h⟩⟩
theorem f661 (c:Int):∃b,Ret cx 127 [.int .i32 c] h (.bool b) h:=⟨_,by rw[ret_iff,t127_eq,t127];simp only[amS,Nat.reduceLeDiff,↓reduceIte,bxS,f300,targetOf,List.append_nil,f311];rfl⟩
theorem f286r (c:Int):∃b,Ret cx 93 [.int .i32 c] h (.bool b) h:=⟨_,by rw[ret_iff,t93_eq,t93];simp only[amS,Nat.reduceLeDiff,↓reduceIte,bxS,f300,targetOf,List.append_nil,f311];rfl⟩
theorem f544p {Fs:List AVal} (hF:∀F∈Fs,Pr F) (hl:Fs.length≤1000) (c:Int) (h:AHeap):∃b,Ret cx 126 [.int .i32 c,.rptr [.sl 1 (Fs.map λF=>[F])]] h (.bool b) h:=by
 have hv:IsSl 1 (Fs.map λF=>[F]) (.sl 1 (Fs.map λF=>[F])):= .mk;have lm:=IsSl.lenM hv;have hev:Ev cx 126 [.int .i32 c,.rptr [.sl 1 (Fs.map λF=>[F])]] h λr h'=>(∃b,r= .bool b)∧h'=h:=by
  unfold Ev;rw[t126_eq,t126];simp only[amS,bxS,lm];refine W_loop_st (λn:Nat=>[ff,.int .i64 (n:Int)]) (λn h1=>n≤Fs.length∧h1=h) (λn=>Fs.length-n) 0 rfl ⟨Nat.zero_le _,rfl⟩ ?_;rintro n h1 ⟨hn,rfl⟩;rcases Nat.lt_or_ge n Fs.length with hlt|hge
  ·have e1:=IsSl.eaddrM (k:= .i64) hv hlt;obtain⟨f,caps,e2,e3,q⟩:=hF _ (List.getElem_mem hlt);obtain⟨b,r1⟩:=q c h1;rw[e2] at e1;have e4:targetOf (.func (.func f) [] caps) [.int .i32 c]=some (f,.int .i32 c::caps):=by simp[targetOf,e3]
   simp only[amS,bxS,show(n:Int)<(Fs.length:Int) by omega,e1,e4,r1,pe_incN n]
   cases b
   ·exact .inr ⟨rfl,LoopPost.next (n+1) rfl ⟨hlt,rfl⟩ (by omega)⟩
   ·simp
  ·simp only[amS,bxS,show¬(n:Int)<(Fs.length:Int) by omega];simp
 obtain⟨r,h',hr,⟨b,rfl⟩,rfl⟩:=hev.ret;exact⟨b,hr⟩
theorem Pr.either {Fs:List AVal} (hF:∀F∈Fs,Pr F) (hl:Fs.length≤1000):Pr (.func (.func 126) [] [.rptr [.sl 1 (Fs.map λF=>[F])]]):=⟨_,_,rfl,by decide,λc h=>f544p hF hl c h⟩
theorem f531 {l:List (List AVal)} (h:AHeap):Ret cx 91 [.sl 1 l] h (.func (.func 126) [] [.rptr [.sl 1 l]]) h:=by rw[ret_iff,t91_eq,t91];simp only[amS,bxS,AVal.cells,Nat.reduceLeDiff,↓reduceIte]
theorem f648 (s:Bytes) (h:AHeap):Ret cx 89 [.str s] h (.func (.func 122) [] [.rptr [.str s]]) h:=by rw[ret_iff,t89_eq,t89];simp only[amS,bxS,AVal.cells,Nat.reduceLeDiff,↓reduceIte]
abbrev frm (a b:Int):AVal:= .func (.func 125) [] [.rptr [.int .i32 a],.rptr [.int .i32 b]]
theorem f496p (c:Int):∃b,PRet cx 123 [.int .i32 c] (.bool b):=by obtain⟨b,r3⟩:=f544p (Fs:=[frm 9 10,frm 12 13,frm 32 32]) (λF hF=>by simp at hF;rcases hF with rfl|rfl|rfl<;>exact .from _ _) (by simp) c [];have e1:peval (.mksl 1) [frm 9 10,frm 12 13,frm 32 32]=some (.sl 1 ([frm 9 10,frm 12 13,frm 32 32].map λF=>[F])):=rfl;refine⟨b,?_⟩;rw[wout,t123_eq,t123];simp only[amS,Nat.reduceLeDiff,↓reduceIte,bxS,f300,e1,f531,targetOf,List.append_nil,List.nil_append,List.cons_append,r3]
theorem f646p (c:Int):∃b,PRet cx 87 [.int .i32 c] (.bool b):=by
 obtain⟨b,r3⟩:=f544p (Fs:=[.func (.func 93) [] [],frm 97 122]) (λF hF=>by
  simp at hF;rcases hF with rfl|rfl
  ·exact⟨_,_,rfl,by decide,λc h=>f286r c⟩
  ·exact .from _ _) (by simp) c []
 have e1:peval (.mksl 1) [.func (.func 93) [] [],frm 97 122]=some (.sl 1 ([AVal.func (.func 93) [] [],frm 97 122].map λF=>[F])):=rfl;refine⟨b,?_⟩;rw[wout,t87_eq,t87];simp only[amS,Nat.reduceLeDiff,↓reduceIte,bxS,f300,e1,f531,targetOf,List.append_nil,List.nil_append,List.cons_append,r3]
theorem f381p (c:Int):PRet cx 148 [.str s,.int .u8 c] (.int .i64 (ixByte c.toNat.toUInt8 s)):=by rw[wout];show W cx (pIndexByte [.str s,.int .u8 c]) _ _;simp only[pIndexByte,amS]
theorem f660p (c:Int):PRet cx 124 [.str s,.int .u8 c] (.int .i64 (ixByte c.toNat.toUInt8 s)):=by rw[wout,t124_eq,t124];simp only[amS,(f381p c).pcall rfl rfl]
theorem Pr.nne (s:Bytes):Pr (.func (.func 122) [] [.rptr [.str s]]):=by
 refine⟨_,_,rfl,by decide,λc h=>?_⟩;obtain⟨b,r1⟩:=f496p c;have lp:hload h none (.rptr [.str s])=some (.str s):=rfl
 cases b
 ·by_cases hc:c=0
  ·subst hc;exact⟨false,by rw[ret_iff,t122_eq,t122];simp only[amS,bxS,r1.pcall rfl rfl,ne_eq,eq_self]⟩
  ·obtain⟨u,hu⟩:∃u,peval (.conv .u8) [.int .i32 c]=some (.int .u8 u):=⟨_,rfl⟩;exact⟨_,by rw[ret_iff,t122_eq,t122];simp only[amS,bxS,r1.pcall rfl rfl,ne_eq,hc,lp,hu,(f660p u).pcall rfl rfl];rfl⟩
 ·exact⟨_,by rw[ret_iff,t122_eq,t122];simp only[amS,bxS,r1.pcall rfl rfl];rfl⟩
theorem f647 (hF:Pr F) (hs:s.length≤maxBytes) (h:AHeap):∃b,Ret cx 88 [.str s,F] h (.bool b) h:=by
 have hs':s.length≤140737488355328:=hs;have hev:Ev cx 88 [.str s,F] h λr h'=>(∃b,r= .bool b)∧h'=h:=by
  obtain⟨f,caps,rfl,e3,q⟩:=hF;unfold Ev;rw[t88_eq,t88];simp only[amS,bxS];refine W_loop_st (λn:Nat=>[ff,.int .i64 (n:Int)]) (λn h1=>n≤s.length∧h1=h) (λn=>s.length-n) 0 rfl ⟨Nat.zero_le _,rfl⟩ ?_;rintro n h1 ⟨hn,rfl⟩;rcases Nat.lt_or_ge n s.length with hlt|hge
  ·obtain⟨u,hu⟩:∃u,peval (.conv .i32) [.int .u8 (s[n].toNat:Int)]=some (.int .i32 u):=⟨_,rfl⟩;obtain⟨b,r1⟩:=q u h1;have e4:targetOf (.func (.func f) [] caps) [.int .i32 u]=some (f,.int .i32 u::caps):=by simp[targetOf,e3]
   simp only[amS,bxS,show(n:Int)<(s.length:Int) by omega,pe_sidx_nat hlt,hu,e4,r1,pe_incN n]
   cases b
   ·simp
   ·exact .inr ⟨rfl,LoopPost.next (n+1) rfl ⟨hlt,rfl⟩ (by omega)⟩
  ·simp only[amS,bxS,show¬(n:Int)<(s.length:Int) by omega];simp
 obtain⟨r,h',hr,⟨b,rfl⟩,rfl⟩:=hev.ret;exact⟨b,hr⟩
theorem f656p (hs:s.length≤maxBytes):∃b,PRet cx 107 [.str s] (.bool b):=by
 obtain⟨b,r1⟩:=f647 (s:=s) (Pr.nne [47,61,62]) hs [];by_cases h0:s=[]
 ·exact⟨false,by rw[wout,t107_eq,t107];simp only[amS,bxS,ne_eq,h0]⟩
 ·exact⟨b,by rw[wout,t107_eq,t107];simp only[amS,bxS,ne_eq,h0,f648,r1]⟩
end
end Go.Am
end
section
namespace Go.Am
open Go
set_option maxRecDepth 100000
theorem f286 (c:Int):PRet cx 93 [.int .i32 c] (.bool (decide (65≤c∧c≤90))):=by rw[wout,t93_eq,t93];simp only[amS,Nat.reduceLeDiff,↓reduceIte,f300 _ _ _,targetOf,f311 _ _ _ _]
theorem f258 (s:Bytes) (hs:s.length≤maxBytes):PRet cx 50 [.str s] (.str (lower s)):=by
 have hs':s.length≤140737488355328:=hs;rw[wout,t50_eq,t50];have e1:hbytesObj [] (.str s)=some ([.cells ((halfLow s 0).map byteV)],.msl 0 0 s.length 1):=by simp only[hbytesObj,hs,if_true];rfl
 have e2:peval (.len false) [.msl 0 0 s.length 1]=some (.int .i64 (s.length:Int)):=rfl;simp only[amS,e1,e2];refine W_loop_st (λn:Nat=>[.int .i64 (n:Int)]) (λn h=>n≤s.length∧h=[.cells ((halfLow s n).map byteV)]) (λn=>s.length-n) 0 rfl ⟨Nat.zero_le _,rfl⟩ ?_;rintro n h ⟨hn,rfl⟩;rcases Nat.lt_or_ge n s.length with hlt|hge
 ·have i1:(n:Int)<(s.length:Int):=by omega
  have e3:peval (.eaddr 1) [.msl 0 0 s.length 1,.int .i64 (n:Int)]=some (.ptr (some (0,n))):=by simp[peval,elemOf,idxOf,hlt]
  have e4:hload [.cells ((halfLow s n).map byteV)] none (.ptr (some (0,n)))=some (.int .u8 (s[n].toNat:Int)):=hload_cell (by rw[List.getElem?_map,halfLow_at hlt];rfl);have e5:IntKind.i32.wrap (s[n].toNat:Int)=(s[n].toNat:Int):=wrap_i32 (by have:=s[n].toNat_lt;omega);simp only[amS,i1,not_true_eq_false,true_implies,false_implies,e3,e4,pe_conv,e5,(f286 _).pcall rfl rfl,pe_incN n];refine⟨λhe=>?_,λhe=>?_⟩
  ·have hup:65≤s[n].toNat∧s[n].toNat≤90:=by omega
   have e6:hstore [.cells ((halfLow s n).map byteV)] 1 (.ptr (some (0,n))) (.int .u8 ((s[n].toNat:Int)-65+97))=some [.cells (((halfLow s n).map byteV).set n (.int .u8 ((s[n].toNat:Int)-65+97)))]:=hstore_cell (by rw[List.length_map,halfLow_length];exact hlt) rfl;simp only[amS,pe_sub,pe_add,wrap_u8 (show 0≤((s[n].toNat:Int)-65)∧((s[n].toNat:Int)-65)≤255 by omega),wrap_u8 (show 0≤((s[n].toNat:Int)-65+97)∧((s[n].toNat:Int)-65+97)≤255 by omega),e6];refine LoopPost.next (n+1) rfl ⟨hlt,?_⟩ (by omega);rw[halfLow_succ hlt,List.map_set];have e7:byteV (lowerByte s[n])= .int .u8 ((s[n].toNat:Int)-65+97):=by unfold byteV;rw[lowerByte_up hup];congr 1;omega
   rw[e7]
  ·have hno:¬(65≤s[n].toNat∧s[n].toNat≤90):=by omega
   refine LoopPost.next (n+1) rfl ⟨hlt,?_⟩ (by omega);rw[halfLow_succ hlt,lowerByte_no hno,set_same (halfLow_at hlt)]
 ·have i1:¬(n:Int)<(s.length:Int):=by omega
  have en:n=s.length:=by omega
  subst en;have e8:hfrz [.cells ((halfLow s s.length).map byteV)] (.msl 0 0 s.length 1)=some ([.dead],.sl 1 (rowsOf (lower s))):=by
   have hl:(lower s).length=s.length:=by simp[lower]
   rw[halfLow_all];simp only[hfrz,List.getElem?_cons_zero];rw[if_pos (by simp[hl])];rw[rowsFrom_bytes (lower s) s.length 0 (by omega)];simp
  simp only[amS,i1,not_false_eq_true,true_implies,false_implies,e8,IsSl.b2s (s:=lower s) .mk]
theorem slcLo {s:Bytes} {k:IntKind} {z a:Nat} (ha:a≤s.length):peval (.slc z true true false) [.str s,.int k (a:Int)]=some (.str (s.drop a)):=by
 have e2:bound (a:Int) s.length=some a:=by unfold bound;rw[if_pos (by omega)];rfl
 simp[peval,sliceOf,boundsOf,e2]
theorem slcHi {s:Bytes} {k:IntKind} {z a:Nat} (ha:a≤s.length):peval (.slc z true false true) [.str s,.int k (a:Int)]=some (.str (s.take a)):=by
 have e2:bound (a:Int) s.length=some a:=by unfold bound;rw[if_pos (by omega)];rfl
 simp[peval,sliceOf,boundsOf,e2]
theorem lower_len (s:Bytes):(lower s).length=s.length:=by simp[lower]
structure Fre (h h':AHeap):Prop where
 le:h.length≤h'.length
 eq:∀i,i<h.length→h'[i]?=h[i]?
section
variable {h h' h1 h2:AHeap} {a n:Nat} {m:Option Nat} {ps:List PN} {A A' A0:Ar} {sf:Int} {x p c d:Int} {e:Int} {v V F':AVal} {l:List Attr} {F:Nat→Prop} {s:Bytes}
theorem Fre.trans (g:Fre h h1) (q:Fre h1 h2):Fre h h2:=⟨Nat.le_trans g.le q.le,λi hi=>(q.eq i (Nat.lt_of_lt_of_le hi g.le)).trans (g.eq i hi)⟩
theorem Fre.app {t:AHeap}:Fre h (h++t):=⟨by simp,λi hi=>List.getElem?_append_left hi⟩
theorem Fre.set {k:Nat} {o:AObj} (g:Fre h h1) (hk:h.length≤k):Fre h (h1.set k o):=⟨by simpa using g.le,λi hi=>by rw[List.getElem?_set_ne (by omega)];exact g.eq i hi⟩
theorem PA.fre (w:PA sf h a n m ps A) (g:Fre h h'):PA sf h' a n m ps A:=w.frame λi hi=>g.eq i (w.lt i hi)
theorem Fre.ext (g:Fre h h'):Ext h F h' F:=⟨g.le,λi hi _=>g.eq i hi,λ_ h=> .inl h⟩
theorem AttrsAt.set {M k:Nat} {o:AObj} (hv:AttrsAt h V l) (hu:Up M V) (hk:k<M):AttrsAt (h.set k o) V l:=by
 rcases hv with h1|⟨id,e,hc,hl⟩
 ·exact .inl h1
 ·have:=hu _ _ e;exact .inr ⟨id,e,by rw[List.getElem?_set_ne (by omega)];exact hc,by simpa using hl⟩
theorem f649p (c:Int) (h:AHeap):∃b,Ret cx 92 [.int .i32 c] h (.bool b) h:=by
 obtain⟨b,r3⟩:=f544p (Fs:=[.func (.func 87) [] [],.func (.func 127) [] []]) (λF hF=>by
  simp at hF;rcases hF with rfl|rfl
  ·refine⟨_,_,rfl,by decide,λc h=>?_⟩;obtain⟨b,r3⟩:=f544p (Fs:=[.func (.func 93) [] [],frm 97 122]) (λF hF=>by
    simp at hF;rcases hF with rfl|rfl
    ·exact⟨_,_,rfl,by decide,λc h=>f286r c⟩
    ·exact .from _ _) (by simp) c h
   have e1:peval (.mksl 1) [.func (.func 93) [] [],frm 97 122]=some (.sl 1 ([AVal.func (.func 93) [] [],frm 97 122].map λF=>[F])):=rfl;refine⟨b,?_⟩;rw[ret_iff,t87_eq,t87];simp only[amS,Nat.reduceLeDiff,↓reduceIte,bxS,f300,e1,f531,targetOf,List.append_nil,List.nil_append,List.cons_append,r3]
  ·exact⟨_,_,rfl,by decide,λc h=>f661 c⟩) (by simp) c h
 have e1:peval (.mksl 1) [.func (.func 87) [] [],.func (.func 127) [] []]=some (.sl 1 ([AVal.func (.func 87) [] [],.func (.func 127) [] []].map λF=>[F])):=rfl;refine⟨b,?_⟩;rw[ret_iff,t92_eq,t92];simp only[amS,Nat.reduceLeDiff,↓reduceIte,bxS,e1,f531,targetOf,List.append_nil,List.nil_append,List.cons_append,r3]
theorem f631p (hs:s.length≤maxBytes):∃b,PRet cx 49 [.str s] (.bool b):=by
 have hs':s.length≤140737488355328:=hs;by_cases h0:s=[]
 ·exact⟨false,by rw[wout,t49_eq,t49];simp only[amS,bxS,h0]⟩
 ·have hl:0<s.length:=List.length_pos_iff.2 h0;obtain⟨u,hu⟩:∃u,peval (.conv .i32) [.int .u8 (s[0].toNat:Int)]=some (.int .i32 u):=⟨_,rfl⟩;have e0:=pe_sidx_nat (k:= .i64) hl;rw[Int.ofNat_zero] at e0;obtain⟨b1,r1⟩:=f646p u
  cases b1
  ·obtain⟨b2,r2⟩:=f544p (Fs:=[frm 58 58,frm 95 95,frm 128 255]) (λF hF=>by simp at hF;rcases hF with rfl|rfl|rfl<;>exact .from _ _) (by simp) u [];have e1:peval (.mksl 1) [frm 58 58,frm 95 95,frm 128 255]=some (.sl 1 ([frm 58 58,frm 95 95,frm 128 255].map λF=>[F])):=rfl
   cases b2
   ·refine⟨false,?_⟩;rw[wout,t49_eq,t49];simp only[amS,Nat.reduceLeDiff,↓reduceIte,bxS,h0,e0,hu,r1.pcall rfl rfl,f300,e1,f531,targetOf,List.append_nil,List.nil_append,List.cons_append,r2]
   ·have e3:peval (.slc 0 true true false) [.str s,.int .i64 1]=some (.str (s.drop 1)):=by exact slcLo (a:=1) (by omega)
    obtain⟨b3,r3⟩:=f647 (s:=s.drop 1) (Pr.either (Fs:=[.func (.func 92) [] [],frm 45 46,frm 58 58,frm 95 95,frm 128 255]) (λF hF=>by
     simp at hF;rcases hF with rfl|rfl|rfl|rfl|rfl
     ·exact⟨_,_,rfl,by decide,λc h=>f649p c h⟩
     all_goals exact .from _ _) (by simp)) (by rw[List.length_drop];omega) []
    have e4:peval (.mksl 1) [.func (.func 92) [] [],frm 45 46,frm 58 58,frm 95 95,frm 128 255]=some (.sl 1 ([AVal.func (.func 92) [] [],frm 45 46,frm 58 58,frm 95 95,frm 128 255].map λF=>[F])):=rfl;refine⟨b3,?_⟩;rw[wout,t49_eq,t49];simp only[amS,Nat.reduceLeDiff,↓reduceIte,bxS,h0,e0,hu,r1.pcall rfl rfl,f300,e1,f531,targetOf,List.append_nil,List.nil_append,List.cons_append,r2,e3,e4,r3]
  ·obtain⟨b,r2⟩:=f647 (s:=s) (Pr.nne [47,62]) hs [];refine⟨b,?_⟩;rw[wout,t49_eq,t49];simp only[amS,Nat.reduceLeDiff,↓reduceIte,bxS,h0,e0,hu,r1.pcall rfl rfl,f648,r2]
end
end Go.Am
end
section
namespace Go.Am
open Go
set_option maxRecDepth 100000
section
variable {h h' h1 h2:AHeap} {a n:Nat} {m:Option Nat} {ps:List PN} {A A' A0:Ar} {sf:Int} {x p c d:Int} {e:Int} {v V F':AVal} {l:List Attr} {F:Nat→Prop} {s:Bytes}
theorem hload1 {N:Nat} {u:AVal} (hc:h[N]?=some (.cells [u])):hload h none (.ptr (some (N,0)))=some u:=by simp only[hload,hc];rfl
theorem hstore1T {N:Nat} {u u':AVal} (hc:h[N]?=some (.cells [u])) (hu:u'.cells=[u']):hstore h 1 (.ptr (some (N,0))) u'=some (h.set N (.cells [u'])):=by simp only[hstore,hc,hu];rfl
theorem f187n {Q:AVal} {q:Attr→Bool} (hv:AttrsIn h v l) (hb:l.length≤1000000000) (hF:AsksR Q h q):∃i:Int,Ret cx 121 [v,Q] h (.int .i64 i) h∧(i= -1∨∃k:Nat,i=k∧k<l.length):=by
 obtain⟨f,caps,rfl,hf,hr⟩:=hF;have hev:Ev cx 121 [v,.func (.func f) [] caps] h λr h'=>∃i:Int,r= .int .i64 i∧(i= -1∨∃k:Nat,i=k∧k<l.length)∧h'=h:=by
  unfold Ev;rw[t121_eq,t121];simp only[amS,bxS,hv.len];refine W_loop_st (λn:Nat=>[.int .i64 0,.int .i64 (n:Int)]) (λn h1=>n≤l.length∧h1=h) (λn=>l.length-n) 0 rfl ⟨Nat.zero_le _,rfl⟩ ?_;rintro n h1 ⟨hn',rfl⟩;rcases Nat.lt_or_ge n l.length with hlt|hge
  ·have i1:(n:Int)<(l.length:Int):=by omega
   obtain⟨p',p1,p2⟩:=hv.at_ n hlt;have r1:=hr l[n];simp only[amS,bxS,↓reduceIte,targetOf,hf,i1,p1,p2,r1,pe_incN n]
   cases q l[n]
   ·exact .inr ⟨rfl,LoopPost.next (n+1) rfl ⟨hlt,rfl⟩ (by omega)⟩
   ·exact .inl ⟨rfl,_,rfl,_,rfl,.inr ⟨n,rfl,hlt⟩⟩
  ·have i1:¬(n:Int)<(l.length:Int):=by omega
   simp only[amS,bxS,i1];exact⟨_,rfl,_,rfl,.inl rfl⟩
 obtain⟨r,h',hr,i,rfl,h3,rfl⟩:=hev.ret;exact⟨i,hr,h3⟩
theorem f655 (w:PA sf h a n m ps A) (lm:Lim A) (hkb:∀y,(A.nd y).kids.length≤1000000000) (sp:Int) (hs:s.length≤400):
  ∃r h',Ret cx 106 [.ptr (some (a,0)),.int .i64 x,.int .i64 sp,.str s] h r h'∧Fre h h'∧
   ((∃ V i s', r = .tuple [V, .int .i64 i, .str s', I 0] ∧ A.has x ∧ (A.nd x).kind = 4 ∧ BS.okSp sp ∧ AttrsAt h' V (A.nd x).attrs ∧ Up h.length V ∧ s'.length ≤ 400 ∧ (i = -1 ∨ ∃ k : Nat, i = k ∧ k < (A.nd x).attrs.length)) ∨
    ∃ e : Int, e ≠ 0 ∧ r = .tuple [.slnil, I (-1), S [], .int .i64 e]) := by
 obtain⟨N,hN⟩:∃N,h.length=N:=⟨_,rfl⟩;have hv:IsInts [x] (.sl 1 [[.int .i64 x]]):= .inl rfl;have w1:=w.app (t:=[.cells [.str s]]);obtain⟨t,r1⟩:=f562g w1 lm hkb hv (by simp) (-1);have w2:=w1.app (t:=t);have fr:Fre h (h++[.cells [.str s]]++t):=Fre.app.trans .app;by_cases hk:okH A (-1) [x]
 ·rw[if_pos hk] at r1;have hx:=hk 0 (by simp);simp at hx;obtain⟨rr,t2,r2,K,V,rfl,hK,hV,hU⟩:=f97w (x:=x) w2 lm (hkb _);rw[if_pos hx] at r2;have fr2:=fr.trans (.app (t:=t2));obtain⟨H,hH⟩:∃H,h++[.cells [.str s]]++t++t2=H:=⟨_,rfl⟩;have hU':Up (N+1) V:=λid k e=>by have:=hU id k e;simp only[List.length_append,List.length_singleton] at this;omega
  have hc1:H[N]?=some (.cells [.str s]):=by rw[←hH,List.append_assoc,List.append_assoc,List.getElem?_append_right (by omega),hN];simp
  rw[hH] at r2 fr2 hV;have hNl:N<H.length:=(List.getElem?_eq_some_iff.1 hc1).1;by_cases k4:(A.nd x).kind=4
  ·by_cases s0:sp<0
   ·refine⟨_,H,?_,fr2,.inr ⟨2,by decide,rfl⟩⟩;rw[ret_iff,t106_eq,t106];simp only[amS,Nat.reduceLeDiff,↓reduceIte,bxS,fillAt,em1,r1,ne_eq,eq_self,r2,k4,s0]
   ·by_cases s7:7<sp
    ·refine⟨_,H,?_,fr2,.inr ⟨2,by decide,rfl⟩⟩;rw[ret_iff,t106_eq,t106];simp only[amS,Nat.reduceLeDiff,↓reduceIte,bxS,fillAt,em1,r1,ne_eq,eq_self,r2,k4,s0,s7]
    ·have ask:∀(H':AHeap) (s':Bytes),H'[N]?=some (.cells [.str s'])→∃q,AsksR (.func (.func 136) [] [.rptr [.int .i64 sp],.ptr (some (N,0))]) H' q:=λH' s' hc=>by
      have lp:∀(h:AHeap) (v:AVal),hload h none (.rptr [v])=some v:=λh v=>rfl;have l2:hload H' none (.ptr (some (N,0)))=some (.str s'):=hload1 hc;refine⟨λb=>decide (b.space=sp∧b.name=s'),_,_,rfl,by decide,λb=>?_⟩;rw[ret_iff,t136_eq,t136];by_cases e1:b.space=sp
      ·by_cases e2:b.name=s'
       ·simp only[amS,Nat.reduceLeDiff,↓reduceIte,bxS,Attr.row,lp,e1,l2,e2,eq_self,and_self,decide_true]
       ·simp only[amS,Nat.reduceLeDiff,↓reduceIte,bxS,Attr.row,lp,e1,l2,e2,eq_self,and_false,decide_false]
      ·simp only[amS,Nat.reduceLeDiff,↓reduceIte,bxS,Attr.row,lp,e1,false_and,decide_false]
     have l2:hload H none (.ptr (some (N,0)))=some (.str s):=hload1 hc1;have osp:BS.okSp sp:=⟨by omega,by omega⟩;have hNe:(h++[AObj.cells [.str s]]).length=N+1:=by simp[hN]
     by_cases hh:(A.nd x).space=1∧sp=0
     ·obtain⟨hh1,rfl⟩:=hh;have rl:=f258 s (by unfold maxBytes;omega);have st:hstore H 1 (.ptr (some (N,0))) (.str (lower s))=some (H.set N (.cells [.str (lower s)])):=hstore1T hc1 rfl;have hc2:(H.set N (.cells [.str (lower s)]))[N]?=some (.cells [.str (lower s)]):=by simp[hNl]
      obtain⟨q,hq⟩:=ask _ _ hc2;have hV2:AttrsAt (H.set N (.cells [.str (lower s)])) V (A.nd x).attrs:=hV.set hU' (Nat.lt_succ_self _);obtain⟨i,r3,hi⟩:=f187n hV2.in_ (lm.at_ x) hq;have l3:hload (H.set N (.cells [.str (lower s)])) none (.ptr (some (N,0)))=some (.str (lower s)):=hload1 hc2;refine⟨_,_,?_,fr2.set (by omega),.inl ⟨V,i,lower s,rfl,hx,k4,osp,hV2,λid k e=>by have:=hU' id k e;omega,by rw[lower_len];exact hs,hi⟩⟩;rw[ret_iff,t106_eq,t106];simp only[amS,Nat.reduceLeDiff,↓reduceIte,bxS,fillAt,hN,hNe,em1,r1,ne_eq,eq_self,r2,k4,s0,s7,hh1,l2,rl.pcall rfl rfl,st,r3,l3]
     ·obtain⟨q,hq⟩:=ask _ _ hc1;obtain⟨i,r3,hi⟩:=f187n hV.in_ (lm.at_ x) hq;refine⟨_,_,?_,fr2,.inl ⟨V,i,s,rfl,hx,k4,osp,hV,λid k e=>by have:=hU' id k e;omega,hs,hi⟩⟩;rw[ret_iff,t106_eq,t106];by_cases hh1:(A.nd x).space=1
      ·have hh0:¬sp=0:=λh=>hh ⟨hh1,h⟩;simp only[amS,Nat.reduceLeDiff,↓reduceIte,bxS,fillAt,hN,hNe,em1,r1,ne_eq,eq_self,r2,k4,s0,s7,hh1,hh0,r3,l2]
      ·simp only[amS,Nat.reduceLeDiff,↓reduceIte,bxS,fillAt,hN,hNe,em1,r1,ne_eq,eq_self,r2,k4,s0,s7,hh1,r3,l2]
  ·refine⟨_,H,?_,fr2,.inr ⟨9,by decide,rfl⟩⟩;rw[ret_iff,t106_eq,t106];simp only[amS,Nat.reduceLeDiff,↓reduceIte,bxS,fillAt,em1,r1,ne_eq,eq_self,r2,k4]
 ·rw[if_neg hk] at r1;refine⟨_,_,?_,fr,.inr ⟨3,by decide,rfl⟩⟩;rw[ret_iff,t106_eq,t106];simp only[amS,Nat.reduceLeDiff,↓reduceIte,bxS,fillAt,em1,r1,ne_eq,ieq]
theorem rows_set {l:List Attr} {k:Nat} (hk:k<l.length) {s:Bytes}:(l.map Attr.row).flatten.take (k*3+2)++[AVal.str s]++(l.map Attr.row).flatten.drop (k*3+2+1)=((l.set k {l[k] with value:=s}).map Attr.row).flatten:=by
 induction l generalizing k with
 |nil=>simp at hk
 |cons b l ih=>
  cases k with
  |zero=>simp[Attr.row]
  |succ k=>have:=ih (k:=k) (by simpa using hk);simp only[List.map_cons,List.flatten_cons,Attr.row,List.cons_append,List.nil_append,List.set_cons_succ,List.getElem_cons_succ] at this⊢;rw[show(k+1)*3+2=(k*3+2)+3 by omega,show k*3+2+3+1=(k*3+2+1)+3 by omega];simp only[List.take_succ_cons,List.drop_succ_cons,List.cons_append];rw[this]
theorem len_flat {l:List Attr}:(l.map Attr.row).flatten.length=l.length*3:=by
 induction l with
 |nil=>rfl
 |cons b l ih=>simp[Attr.row] at*;omega
theorem grow_at {b:Attr} (hV:AttrsAt h1 V l) (hb:l.length≤1000000000) (g1:Fre h h1) (hU:Up h.length V):
  ∃V2 h2,hgrow h1 3 40 V (.sl 3 [b.row])=some (h2,V2)∧AttrsAt h2 V2 (l++[b])∧Fre h h2:=by
 have hm:maxBytes=140737488355328:=rfl;have hr:rowsAt h1 3 (.sl 3 [b.row])=some [b.row]:=by simp[rowsAt]
 rcases hV with⟨rfl,rfl⟩|⟨id,rfl,hc,hl⟩
 ·refine⟨.msl h1.length 0 1 3,h1++[.cells b.row],?_,.inr ⟨h1.length,rfl,by simp,by simp⟩,g1.trans .app⟩;unfold hgrow;simp[hr,hm]
 ·have hid:=hU _ _ rfl;have lf:=len_flat (l:=l);refine⟨.msl h1.length 0 (l.length+1) 3,h1.set id .dead++[.cells ((l.map Attr.row).flatten++b.row)],?_,.inr ⟨h1.length,by simp,?_,by simp⟩,(g1.set hid).trans .app⟩
  ·unfold hgrow;simp only[hr,hc,lf,List.length_singleton,Nat.zero_add,↓reduceIte];rw[if_neg (by omega),if_pos ⟨trivial,Nat.le_refl _,by omega⟩,List.take_of_length_le (by omega)];simp
  ·rw[List.getElem?_append_right (by simp)];simp
theorem E639 {s':Bytes} (w:PW 0 h F a A) (ro:Roo A) (ok:ArOk A 0) (cl:Cl A) (sp:Int) (hs:s.length≤400) (hs':s'.length≤400):
  Eff 0 61 [.ptr (some (a,0)),.int .i64 x,.int .i64 sp,.str s,.str s'] h F a λr A'=>(∃e,r= .int .i64 e)∧Ste A A' 0 0 1:=by
 have lm:=ro.lim;obtain⟨n,m,ps,w',rfl⟩:=w.pa_;have hkb:=lm.kids ok;obtain⟨r1,h1,q1,g1,c1⟩:=f655 (x:=x) w' lm hkb sp hs;have w1:=w'.fre g1;rcases c1 with⟨V,i,s1,rfl,hx,k4,osp,hV,hU,hs1,hi⟩|⟨e,he,rfl⟩
 ·obtain⟨b,hb⟩:=f656p (s:=s) (by unfold maxBytes;omega)
  cases b
  ·refine⟨I 8,A,h1,_,?_,w1.pw_,g1.ext,⟨_,rfl⟩,(Ste.refl ok cl).mono (by omega) (by omega) (by omega)⟩;rw[ret_iff,t61_eq,t61];simp only[amS,Nat.reduceLeDiff,↓reduceIte,bxS,q1,ne_eq,eq_self,hb.pcall rfl rfl]
  ·have sp0:=(ok.nok x hx).asp;rcases hi with rfl|⟨k,rfl,hk⟩
   ·obtain⟨V2,h2,e2,hV2,g2⟩:=grow_at (b:=⟨sp,s1,s'⟩) hV (lm.at_ x) g1 hU;rw[Attr.row] at e2;have w2:=w'.fre g2;obtain⟨r3,A3,h3,F3,q3,w3,x3,⟨e,rfl⟩,p3⟩:=E143 (x:=x) w2.pw_ lm hV2.in_ (by have:=lm.at_ x;have:=(ro.bn x).1;rw[List.length_append,List.length_singleton];omega);refine⟨_,A3,h3,F3,?_,w3,g2.ext.trans x3,⟨e,rfl⟩,?_⟩
    ·rw[ret_iff,t61_eq,t61];simp only[amS,Nat.reduceLeDiff,↓reduceIte,fillAt,bxS,q1,ne_eq,eq_self,hb.pcall rfl rfl,show peval (.mksl 3) [.agg [.int .i64 sp,.str s1,.str s']]=some (.sl 3 [[.int .i64 sp,.str s1,.str s']]) from rfl,show(-1:Int)<0 by decide,e2,q3]
    ·rcases p3 with⟨_,_,hsp,rfl⟩|rfl
     ·exact Ste.attrs ok cl hx k4 hsp λk h0 o=>⟨by rw[List.length_append,List.length_singleton];have:=(o x).1;omega,λy hy=>by
       rcases List.mem_append.1 hy with hy|hy
       ·exact(o x).2.1 y hy
       ·rw[List.mem_singleton.1 hy];exact⟨hs1,hs'⟩⟩
     ·exact(Ste.refl ok cl).mono (by omega) (by omega) (by omega)
   ·rcases hV with⟨rfl,e0⟩|⟨id,rfl,hc,hl⟩
    ·rw[e0] at hk;simp at hk
    ·have hid:=hU _ _ rfl;have lf:=len_flat (l:=(A.nd x).attrs);have e1:peval (.eaddr 3) [.msl id 0 (A.nd x).attrs.length 3,.int .i64 (k:Int)]=some (.ptr (some (id,k*3))):=eaddr_msl hk;have e3:hstore h1 1 (.ptr (some (id,k*3+2))) (.str s')=some (h1.set id (.cells (((A.nd x).attrs.set k {(A.nd x).attrs[k] with value:=s'}).map Attr.row).flatten)):=by have hcs:(AVal.str s').cells=[.str s']:=rfl;simp only[hstore,hc,hcs,List.length_singleton,lf];rw[if_pos ⟨trivial,by omega⟩,rows_set hk]
     have hV2:AttrsAt (h1.set id (.cells (((A.nd x).attrs.set k {(A.nd x).attrs[k] with value:=s'}).map Attr.row).flatten)) (.msl id 0 (A.nd x).attrs.length 3) ((A.nd x).attrs.set k {(A.nd x).attrs[k] with value:=s'}):=
      .inr ⟨id,by simp,by simp[hl],by simpa using hl⟩
     have g2:Fre h (h1.set id (.cells (((A.nd x).attrs.set k {(A.nd x).attrs[k] with value:=s'}).map Attr.row).flatten)):=g1.set hid;have w2:=w'.fre g2;have k0:¬(k:Int)<0:=by omega
     obtain⟨r3,A3,h3,F3,q3,w3,x3,⟨e,rfl⟩,p3⟩:=E143 (x:=x) w2.pw_ lm hV2.in_ (by have:=lm.at_ x;rw[List.length_set];omega);refine⟨_,A3,h3,F3,?_,w3,g2.ext.trans x3,⟨e,rfl⟩,?_⟩
     ·rw[ret_iff,t61_eq,t61];simp only[amS,Nat.reduceLeDiff,↓reduceIte,fillAt,bxS,q1,ne_eq,eq_self,hb.pcall rfl rfl,k0,e1,e3,q3]
     ·rcases p3 with⟨_,_,hsp,rfl⟩|rfl
      ·exact Ste.attrs ok cl hx k4 hsp λk' h0 o=>⟨by rw[List.length_set];have:=(o x).1;omega,λy hy=>by
        rcases List.mem_or_eq_of_mem_set hy with hy|rfl
        ·exact(o x).2.1 y hy
        ·exact⟨((o x).2.1 _ (List.getElem_mem hk)).1,hs'⟩⟩
      ·exact(Ste.refl ok cl).mono (by omega) (by omega) (by omega)
 ·refine⟨.int .i64 e,A,h1,_,?_,w1.pw_,g1.ext,⟨_,rfl⟩,(Ste.refl ok cl).mono (by omega) (by omega) (by omega)⟩;rw[ret_iff,t61_eq,t61];simp only[amS,Nat.reduceLeDiff,↓reduceIte,bxS,q1,ne_eq,he]
theorem atk {l:List Attr} {k:Nat}:(l.map Attr.row).flatten.take (k*3)=((l.take k).map Attr.row).flatten:=by
 induction l generalizing k with
 |nil=>simp
 |cons b l ih=>
  cases k with
  |zero=>simp
  |succ k=>rw[show(k+1)*3=k*3+3 by omega];simp only[List.map_cons,List.flatten_cons,Attr.row,List.cons_append,List.nil_append,List.take_succ_cons,ih]
theorem adr {l:List Attr} {k:Nat}:(l.map Attr.row).flatten.drop (k*3)=((l.drop k).map Attr.row).flatten:=by
 induction l generalizing k with
 |nil=>simp
 |cons b l ih=>
  cases k with
  |zero=>simp
  |succ k=>rw[show(k+1)*3=k*3+3 by omega];simp only[List.map_cons,List.flatten_cons,Attr.row,List.cons_append,List.nil_append,List.drop_succ_cons,ih]
theorem a1 {l:List Attr} {k:Nat} (hk:k<l.length):((l.map Attr.row).flatten.drop (k*3)).take 3=l[k].row:=by rw[adr,List.drop_eq_getElem_cons hk,List.map_cons,List.flatten_cons];rfl
theorem rowsFrom_flat {l:List Attr}:∀{n off:Nat},off+n≤l.length→rowsFrom (l.map Attr.row).flatten 3 (off*3) n=((l.drop off).take n).map Attr.row
 |0,off,_=>by simp[rowsFrom]
 |n+1,off,h=>by
  have ih:=rowsFrom_flat (l:=l) (n:=n) (off:=off+1) (by omega);have hlt:off<l.length:=by omega
  unfold rowsFrom;rw[a1 hlt,show off*3+3=(off+1)*3 by omega,ih,List.drop_eq_getElem_cons hlt,List.take_succ_cons,List.map_cons]
theorem f657 {id k:Nat} (hc:h[id]?=some (.cells (l.map Attr.row).flatten)) (hk:k<l.length) (hb:l.length≤1000000000):
  ∃r o,Ret cx 109 [.msl id 0 l.length 3,.int .i64 (k:Int),.int .i64 ((k+1:Nat):Int)] h r (h.set id o)∧AttrsIn (h.set id o) r (l.eraseIdx k):=by
 have lf:=len_flat (l:=l);have hid:=(List.getElem?_eq_some_iff.1 hc).1;obtain⟨N,hN⟩:∃N,l.length=N+1:=⟨l.length-1,by omega⟩;obtain⟨L,hL⟩:∃L,l.eraseIdx k=L:=⟨_,rfl⟩;have hLl:L.length=N:=by rw[←hL,List.length_eraseIdx];simp[hk];omega
 have eL:L=l.take k++l.drop (k+1):=by rw[←hL,List.eraseIdx_eq_take_drop_succ]
 have lfL:=len_flat (l:=L);rw[hLl] at lfL;obtain⟨z,hz⟩:∃z:Attr,z=⟨0,[],[]⟩:=⟨_,rfl⟩;have hNl:N<l.length:=by omega
 have mx:maxBytes=140737488355328:=rfl;have e6:∃v4 v5,peval (.slc 3 false false true) [.msl id 0 (N+1) 3,.int .i64 (k:Int)]=some v4∧peval (.slc 3 false true false) [.msl id 0 (N+1) 3,.int .i64 ((k+1:Nat):Int)]=some v5∧
   hgrow h 3 40 v4 v5=some (h.set id (.cells ((L.map Attr.row).flatten++l[N].row)),.msl id 0 N 3):=by
  have b1:bound (k:Int) (N+1)=some k:=by unfold bound;rw[if_pos (by omega)];rfl
  have b2:bound ((k+1:Nat):Int) (N+1)=some (k+1):=by unfold bound;rw[if_pos (by omega)];rfl
  have p4:peval (.slc 3 false false true) [.msl id 0 (N+1) 3,.int .i64 (k:Int)]=some (.msl id 0 k 3):=by simp[peval,sliceOf,boundsOf,b1]
  have last:(l.map Attr.row).flatten.drop (N*3)=l[N].row:=by rw[adr,List.drop_eq_getElem_cons hNl,List.drop_of_length_le (by omega)];simp
  by_cases hkN:k<N
  ·have p5:peval (.slc 3 false true false) [.msl id 0 (N+1) 3,.int .i64 ((k+1:Nat):Int)]=some (.msl id ((k+1)*3) (N-k) 3):=by simp only[peval,sliceOf,boundsOf,b2];simp[hkN]
   refine⟨_,_,p4,p5,?_⟩;have hr:rowsAt h 3 (.msl id ((k+1)*3) (N-k) 3)=some ((l.drop (k+1)).map Attr.row):=by simp only[rowsAt,hc,↓reduceIte,lf];rw[if_pos (by omega),rowsFrom_flat (by omega),List.take_of_length_le (by rw[List.length_drop];omega)]
   obtain⟨r0,rs,hrs⟩:∃r0 rs,(l.drop (k+1)).map Attr.row=r0::rs:=by rw[List.drop_eq_getElem_cons (by omega)];exact⟨_,_,rfl⟩
   have hl2:(r0::rs).length=N-k:=by rw[←hrs,List.length_map,List.length_drop];omega
   have hf:(r0::rs).flatten=((l.drop (k+1)).map Attr.row).flatten:=by rw[hrs]
   unfold hgrow;rw[hrs] at hr;simp only[hr,hc,↓reduceIte,hl2,lf,Nat.zero_add];rw[if_pos (by omega),show k+(N-k)=N by omega,last,hf,atk,←List.flatten_append,←List.map_append,←eL]
  ·obtain rfl:k=N:=by omega
   have p5:peval (.slc 3 false true false) [.msl id 0 (k+1) 3,.int .i64 ((k+1:Nat):Int)]=some (.sl 3 []):=by simp only[peval,sliceOf,boundsOf,b2];simp
   refine⟨_,_,p4,p5,?_⟩;have hr:rowsAt h 3 (.sl 3 [])=some []:=by simp[rowsAt]
   have e7:(L.map Attr.row).flatten++l[k].row=(l.map Attr.row).flatten:=by rw[eL,List.drop_of_length_le (by omega),List.append_nil,←atk,←last,List.take_append_drop]
   have e8:h.set id (.cells (l.map Attr.row).flatten)=h:=by
    apply List.ext_getElem?;intro j;by_cases e:id=j
    ·subst e;rw[List.getElem?_set_self hid,hc]
    ·rw[List.getElem?_set_ne e]
   unfold hgrow;simp only[hr,↓reduceIte,e7,e8]
 obtain⟨v4,v5,p4,p5,e6⟩:=e6;have hc2:(h.set id (.cells ((L.map Attr.row).flatten++l[N].row)))[id]?=some (.cells ((L.map Attr.row).flatten++l[N].row)):=by simp[hid]
 have len2:((L.map Attr.row).flatten++l[N].row).length=(N+1)*3:=by rw[List.length_append,lfL,Attr.len_row];omega
 have m1:meval (.chk3 3) h [.msl id 0 (N+1) 3,.int .i64 (k:Int),.int .i64 ((k+1:Nat):Int),.int .i64 ((N+1:Nat):Int)]=some (h,.bool true):=by
  have:chk3Of 3 [.msl id 0 (N+1) 3,.int .i64 (k:Int),.int .i64 ((k+1:Nat):Int),.int .i64 ((N+1:Nat):Int)]=true:=by simp[chk3Of];omega
  simp only[meval,this,↓reduceIte]
 have m2:meval (.deep 3 true true) (h.set id (.cells ((L.map Attr.row).flatten++l[N].row))) [.msl id 0 N 3,.int .i64 (N:Int),.int .i64 ((N+1:Nat):Int)]=some (h.set id (.cells ((L.map Attr.row).flatten++l[N].row)),.msl id (N*3) 1 3):=by
  have b1:bound ((N+1:Nat):Int) (N+1)=some (N+1):=by unfold bound;rw[if_pos (by omega)];rfl
  have b2:bound (N:Int) (N+1)=some N:=by unfold bound;rw[if_pos (by omega)];rfl
  simp only[meval,hdeep,hc2,↓reduceIte,len2,Nat.sub_zero,Nat.mul_div_cancel _ (show 0<3 by decide),Nat.zero_le,and_self,boundsOf,b1,b2,Option.bind_some,Option.map_some,Nat.lt_succ_self,Nat.zero_add,Nat.add_sub_cancel_left]
 have m3:meval (.clear 3 [I 0,S [],S []]) (h.set id (.cells ((L.map Attr.row).flatten++l[N].row))) [.msl id (N*3) 1 3]=some (h.set id (.cells ((L.map Attr.row).flatten++z.row)),.bool true):=by
  simp only[meval,hclear,hc2,len2,List.length_cons,List.length_nil];rw[if_pos ⟨trivial,trivial,by omega⟩,List.set_set]
  congr 4
  rw[List.take_left' lfL,List.drop_of_length_le (by rw[len2];omega),hz];simp[Attr.row]
 refine⟨.msl id 0 N 3,.cells ((L.map Attr.row).flatten++z.row),?_,?_⟩
 ·rw[hN,ret_iff,t109_eq,t109];have n1:¬(k:Int)=((k+1:Nat):Int):=by omega
  have l1:∀n:Nat,peval (.len false) [.msl id 0 n 3]=some (.int .i64 (n:Int)):=λ_=>rfl;simp only[amS,bxS,l1,m1,n1,p4,p5,e6,m2,m3]
 ·have hc3:(h.set id (.cells ((L.map Attr.row).flatten++z.row)))[id]?=some (.cells ((L.map Attr.row).flatten++z.row)):=by simp[hid]
  have e9:(L.map Attr.row).flatten++z.row=((L++[z]).map Attr.row).flatten:=by simp
  rw[hL];refine⟨by rw[hLl];rfl,λj hj=>⟨.ptr (some (id,j*3)),by rw[←hLl];exact eaddr_msl hj,?_⟩⟩;simp only[hload,hc3,partOf_some];rw[e9,if_pos (by rw[len_flat,List.length_append,List.length_singleton];omega),a1 (by rw[List.length_append];omega),List.getElem_append_left hj]
theorem E640 (w:PW 0 h F a A) (ro:Roo A) (ok:ArOk A 0) (cl:Cl A) (sp:Int) (hs:s.length≤400):
  Eff 0 62 [.ptr (some (a,0)),.int .i64 x,.int .i64 sp,.str s] h F a λr A'=>(∃b e,r= .tuple [.bool b,.int .i64 e])∧Ste A A' 0 0 1:=by
 have lm:=ro.lim;obtain⟨n,m,ps,w',rfl⟩:=w.pa_;have hkb:=lm.kids ok;obtain⟨r1,h1,q1,g1,c1⟩:=f655 (x:=x) w' lm hkb sp hs;have w1:=w'.fre g1;rcases c1 with⟨V,i,s1,rfl,hx,k4,osp,hV,hU,hs1,hi⟩|⟨e,he,rfl⟩
 ·rcases hi with rfl|⟨k,rfl,hk⟩
  ·refine⟨.tuple [ff,I 0],A,h1,_,?_,w1.pw_,g1.ext,⟨_,_,rfl⟩,(Ste.refl ok cl).mono (by omega) (by omega) (by omega)⟩;rw[ret_iff,t62_eq,t62];simp only[amS,Nat.reduceLeDiff,↓reduceIte,bxS,q1,ne_eq,eq_self,show(-1:Int)<0 by decide]
  ·rcases hV with⟨rfl,e0⟩|⟨id,rfl,hc,hl⟩
   ·rw[e0] at hk;simp at hk
   ·have hid:=hU _ _ rfl;obtain⟨V2,o,r2,hV2⟩:=f657 hc hk (lm.at_ x);have g2:Fre h (h1.set id o):=g1.set hid;have w2:=w'.fre g2;have k0:¬(k:Int)<0:=by omega
    obtain⟨r3,A3,h3,F3,q3,w3,x3,⟨e,rfl⟩,p3⟩:=E143 (x:=x) w2.pw_ lm hV2 (by have:=lm.at_ x;have:=List.length_eraseIdx_le (A.nd x).attrs k;omega);refine⟨_,A3,h3,F3,?_,w3,g2.ext.trans x3,⟨true,e,rfl⟩,?_⟩
    ·have:=lm.at_ x;rw[ret_iff,t62_eq,t62];simp only[amS,Nat.reduceLeDiff,↓reduceIte,fillAt,bxS,q1,ne_eq,eq_self,k0,pe_incN k,r2,q3]
    ·rcases p3 with⟨_,_,hsp,rfl⟩|rfl
     ·exact Ste.attrs ok cl hx k4 hsp λk' h0 o=>⟨by have:=List.length_eraseIdx_le (A.nd x).attrs k;have:=(o x).1;omega,λy hy=>(o x).2.1 y (List.mem_of_mem_eraseIdx hy)⟩
     ·exact(Ste.refl ok cl).mono (by omega) (by omega) (by omega)
 ·refine⟨.tuple [ff,.int .i64 e],A,h1,_,?_,w1.pw_,g1.ext,⟨_,_,rfl⟩,(Ste.refl ok cl).mono (by omega) (by omega) (by omega)⟩;rw[ret_iff,t62_eq,t62];simp only[amS,Nat.reduceLeDiff,↓reduceIte,bxS,q1,ne_eq,he]
theorem E622 (w:PW 0 h F a A) (ro:Roo A) (ok:ArOk A 0) (cl:Cl A) (hs:s.length≤400):
  Eff 0 19 [.ptr (some (a,0)),.int .i64 d,.str s] h F a λr A'=>(∃b e,r=tup b e)∧Ste A A' 3 0 0:=by
 have lm:=ro.lim;obtain⟨n,m,ps,w',rfl⟩:=w.pa_;have hkb:=lm.kids ok;have hv:IsInts [d] (.sl 1 [[.int .i64 d]]):= .inl rfl;obtain⟨t,r1⟩:=f562g w' lm hkb hv (by simp) (-1);have w1:=w'.app (t:=t);have same:Ste A A 3 0 0:=(Ste.refl ok cl).mono (by omega) (by omega) (by omega);by_cases hk:okH A (-1) [d]
 ·rw[if_pos hk] at r1;have hd:=hk 0 (by simp);simp at hd;obtain⟨t2,r2⟩:=f626 w1 lm hkb d;have w2:=w1.app (t:=t2);have g2:Fre h (h++t++t2):=Fre.app.trans .app;by_cases k1:(A.nd d).kind=1
  ·obtain⟨b,hb⟩:=f631p (s:=s) (by unfold maxBytes;omega)
   cases b
   ·refine⟨tup 0 8,A,_,_,?_,w2.pw_,g2.ext,⟨_,_,rfl⟩,same⟩;rw[ret_iff,t19_eq,t19];simp only[amS,Nat.reduceLeDiff,↓reduceIte,bxS,em1,r1,ne_eq,eq_self,r2,k1,hb.pcall rfl rfl]
   ·have hv2:AttrsIn (h++t++t2) .slnil []:=⟨rfl,λk hk=>by simp at hk⟩;have rl:=f258 s (by unfold maxBytes;omega);obtain⟨r3,A3,h3,F3,q3,w3,x3,p3⟩:=E152 (d:=d) w2.pw_ lm (by have:=ro.len;omega) hv2 (by simp) 1 (lower s);rcases p3 with⟨hd',hsp,hl,rfl,rfl⟩|⟨_,⟨e,he,rfl⟩,rfl⟩
    ·refine⟨tup (A.len+1) 0,_,h3,F3,?_,w3,g2.ext.trans x3,⟨_,_,rfl⟩,Ste.elem ok cl hd' hsp hl (by rw[lower_len];exact hs) (by simp) (λy hy=>by cases hy)⟩;rw[ret_iff,t19_eq,t19];simp only[amS,Nat.reduceLeDiff,↓reduceIte,bxS,em1,r1,ne_eq,eq_self,r2,k1,hb.pcall rfl rfl,rl.pcall rfl rfl,q3]
    ·refine⟨tup 0 e,_,h3,F3,?_,w3,g2.ext.trans x3,⟨_,_,rfl⟩,same⟩;rw[ret_iff,t19_eq,t19];simp only[amS,Nat.reduceLeDiff,↓reduceIte,bxS,em1,r1,ne_eq,eq_self,r2,k1,hb.pcall rfl rfl,rl.pcall rfl rfl,q3]
  ·refine⟨tup 0 9,A,_,_,?_,w2.pw_,g2.ext,⟨_,_,rfl⟩,same⟩;rw[ret_iff,t19_eq,t19];simp only[amS,Nat.reduceLeDiff,↓reduceIte,bxS,em1,r1,ne_eq,eq_self,r2,k1]
 ·rw[if_neg hk] at r1;refine⟨tup 0 3,A,_,_,?_,w1.pw_,.app,⟨_,_,rfl⟩,same⟩;rw[ret_iff,t19_eq,t19];simp only[amS,Nat.reduceLeDiff,↓reduceIte,bxS,em1,r1,ne_eq,ieq]
end
end Go.Am
end
