/- Lemmas -/
import Derived.Test.YtjboelmdplaenaaGreatDoorQ24
set_option linter.unusedVariables false
set_option linter.unusedSimpArgs false
section
namespace Go.Am
open Go
set_option maxRecDepth 100000
def ANode.core (x:ANode):ANode:={x with par:=0,kids:=[],doc:=0,cont:=0,host:=0}
inductive Smt (A B:Ar) (P:Int→Prop):Int→Int→Prop
 |mk {x y:Int} (p:P x) (hx:A.has x) (hy:B.has y) (co:(A.nd x).core=(B.nd y).core) (hl:(A.nd x).kids.length=(B.nd y).kids.length)
  (hc:(A.nd x).cont=0↔(B.nd y).cont=0) (sc:(A.nd x).cont≠0→Smt A B P (A.nd x).cont (B.nd y).cont)
  (sk:∀i,i<(A.nd x).kids.length→Smt A B P ((A.nd x).kids.getD i 0) ((B.nd y).kids.getD i 0)):Smt A B P x y
structure Kpx (A A':Ar) (P:Int→Prop):Prop where
 has:∀z,P z→A.has z→A'.has z
 co:∀z,P z→A.has z→(A'.nd z).core=(A.nd z).core∧(A'.nd z).kids=(A.nd z).kids∧(A'.nd z).cont=(A.nd z).cont
section
variable {A B C A' B' A1 A2:Ar} {P Q:Int→Prop} {x y z t k d e:Int}
theorem Kpx.refl:Kpx A A P:=⟨λ_ _ h=>h,λ_ _ _=>⟨rfl,rfl,rfl⟩⟩
theorem Smt.keep (s:Smt A B P x y) (hA:Kpx A A' P) (hB:Kpx B B' λ_=>True):Smt A' B' P x y:=by
 induction s with
 |mk p hx hy co hl hc sc sk i1 i2=>
  obtain⟨a1,a2,a3⟩:=hA.co _ p hx;obtain⟨b1,b2,b3⟩:=hB.co _ trivial hy;refine .mk p (hA.has _ p hx) (hB.has _ trivial hy) (by rw[a1,b1,co]) (by rw[a2,b2,hl]) (by rw[a3,b3];exact hc) ?_ ?_
  ·rw[a3,b3];exact i1
  ·rw[a2,b2];exact i2
theorem Smt.mono (s:Smt A B P x y) (h:∀z,P z→Q z):Smt A B Q x y:=by
 induction s with
 |mk p hx hy co hl hc sc sk i1 i2=>exact .mk (h _ p) hx hy co hl hc i1 i2
theorem Smt.symm (s:Smt A B P x y):Smt B A (λ_=>True) y x:=by
 induction s with
 |mk p hx hy co hl hc sc sk i1 i2=>exact .mk trivial hy hx co.symm hl.symm hc.symm (λh=>i1 λe=>h (hc.1 e)) λi hi=>i2 i (by rw[hl];exact hi)
theorem Smt.trans (s:Smt A B P x y):∀{z:Int},Smt B C Q y z→Smt A C P x z:=by
 induction s with
 |mk p hx hy co hl hc sc sk i1 i2=>
  intro z t
  cases t with
  |mk q gx gy dco dl dc tc tk=>exact .mk p hx gy (co.trans dco) (hl.trans dl) (hc.trans dc) (λh=>i1 h (tc λe=>h (hc.2 e))) λi hi=>i2 i hi (tk i (by rw[←hl];exact hi))
theorem Smt.hl (s:Smt A B P x y):A.has x∧B.has y∧P x:=by cases s with|mk p hx hy _ _ _ _ _=>exact⟨hx,hy,p⟩
structure GrX (t:Int) (A A':Ar):Prop where
 len:A.len≤A'.len
 nd:∀z,A.has z→z≠t→A'.nd z=A.nd z
 inr:∀d,A.inr d≠0→A'.inr d=A.inr d
theorem has_le (h:A.len≤A'.len) (hz:A.has z):A'.has z:=by unfold Ar.len at h;unfold Ar.has at hz⊢;omega
theorem GrX.has (g:GrX t A A') (hz:A.has z):A'.has z:=has_le g.len hz
theorem GrX.refl:GrX t A A:=⟨Int.le_refl _,λ_ _ _=>rfl,λ_ _=>rfl⟩
theorem GrX.trans (g:GrX t A A1) (k:GrX t A1 A2):GrX t A A2:=
 ⟨Int.le_trans g.len k.len,λz hz hn=>by rw[k.nd z (g.has hz) hn,g.nd z hz hn],λd hd=>by rw[k.inr d (by rw[g.inr d hd];exact hd),g.inr d hd]⟩
abbrev Grow (A A':Ar):Prop:=GrX 0 A A'
theorem Grow.nd' (g:Grow A A') (hz:A.has z):A'.nd z=A.nd z:=g.nd z hz (by have:=hz.1;omega)
theorem Grow.kpt (g:Grow A A'):Kpx A A' P:=⟨λz _ hz=>g.has hz,λz _ hz=>by rw[g.nd' hz];exact⟨rfl,rfl,rfl⟩⟩
theorem GrX.kpt (g:GrX t A A') (hP:∀z,P z→z≠t):Kpx A A' P:=⟨λz _ hz=>g.has hz,λz p hz=>by rw[g.nd z hz (hP z p)];exact⟨rfl,rfl,rfl⟩⟩
theorem has_lt (hz:A.has z):z≤A.len:=by unfold Ar.len;exact hz.2
theorem grow_add {n:ANode} (il:A.i.length=A.n.length):Grow A (A.add n):=
 ⟨by rw[len_add];omega,λz hz _=>by rw[nd_add,if_neg (by have:=has_lt hz;omega)],λd _=>inr_add il⟩
theorem il_add' {n:ANode} (il:A.i.length=A.n.length):(A.add n).i.length=(A.add n).n.length:=by simp[Ar.add,il]
theorem il_setI' {m:Int} (il:A.i.length=A.n.length):(A.setI d m).i.length=(A.setI d m).n.length:=by simp only[Ar.setI];split<;>simpa using il
theorem il_inert' (il:A.i.length=A.n.length):(A.inertA d).i.length=(A.inertA d).n.length:=by
 unfold Ar.inertA;split
 ·exact il
 ·exact il_setI' (il_setI' (il_add' il))
theorem inr_has (h:A.inr d≠0):A.has d:=Decidable.byContradiction λhh=>h (by unfold Ar.inr;rw[if_neg hh])
theorem grow_inert (il:A.i.length=A.n.length):Grow A (A.inertA d):=by
 refine⟨by rw[len_inert];split<;>omega,λz hz _=>nd_inert (.inl (by have:=has_lt hz;omega)),λq hq=>?_⟩;unfold Ar.inertA;split
 ·rfl
 ·rename_i h1;have hq1:=has_lt (inr_has hq);have e1:(A.add {kind:=1,doc:=A.len+1}).i.length=(A.add {kind:=1,doc:=A.len+1}).n.length:=il_add' il;rw[inr_setI (by simp only[Ar.setI];split<;>simpa using e1),if_neg (by omega),inr_setI e1,if_neg (by rintro⟨rfl,_⟩;exact h1 hq),inr_add il]
structure NewF (A A1:Ar) (b:ANode):Prop where
 ok:ArOk A1 0
 gr:Grow A A1
 le:A1.len≤A.len+3
 has:A1.has (A.len+1)
 co:(A1.nd (A.len+1)).core=b.core
 par:(A1.nd (A.len+1)).par=0
 host:(A1.nd (A.len+1)).host=0
 kids:(A1.nd (A.len+1)).kids=[]
 ct:(A1.nd (A.len+1)).cont=0∨(A.len+1<(A1.nd (A.len+1)).cont∧(A1.nd (A1.nd (A.len+1)).cont).kids=[]∧(A1.nd (A1.nd (A.len+1)).cont).par=0)
structure Last (A A':Ar) (t k:Int):Prop where
 ok:ArOk A' 0
 gx:∀z,z≠t→z≠k→A'.nd z=A.nd z
 nt:A'.nd t={A.nd t with kids:=(A.nd t).kids++[k]}
 nk:A'.nd k={A.nd k with par:=t}
 len:A'.len=A.len
 inr:∀d,A'.inr d=A.inr d
theorem reach_root (h:Reach A k t):k=t∨(A.up t≠0∧Reach A k (A.up t)):=by
 cases h with
 |refl=>exact .inl rfl
 |step h1 h2=>exact .inr ⟨h1,h2⟩
theorem put_last (ok:ArOk A 0) (ht:A.has t) (hk:A.has k) (hp:isPar (A.nd t).kind) (kn:(A.nd k).kind≠1∧(A.nd k).kind≠2) (h0:(A.nd k).par=0)
  (hu:A.up t=0∨(A.up t≠k∧A.up (A.up t)=0)) (hne:k≠t):Fits A t k 0∧Last A (A.tput t k 0) t k:=by
 have hr:¬Reach A k t:=λhr=>by
  rcases reach_root hr with e|⟨h1,h2⟩
  ·exact hne e
  ·rcases hu with hu|⟨u1,u2⟩
   ·exact h1 hu
   ·rcases reach_root h2 with e|⟨h3,_⟩
    ·exact u1 e.symm
    ·exact h3 u2
 have f:Fits A t k 0:=⟨ht,hk,λh=>absurd rfl h,hp,kn,hr⟩;have e1:A.cut k=A:=by unfold Ar.cut;simp only;rw[if_pos h0]
 have e2:A.tput t k 0=A.ins t k 0:=by unfold Ar.tput;rw[if_pos f,e1]
 have hN:∀z,(A.ins t k 0).nd z=if z=k then{A.nd k with par:=t} else if z=t then{A.nd t with kids:=insAt (A.nd t).kids 0 k} else A.nd z:=λz=>nd_ins ht hk hne
 have hi:insAt (A.nd t).kids 0 k=(A.nd t).kids++[k]:=by unfold insAt;rw[if_pos rfl]
 refine⟨f,ok_tput ok,λz h1 h2=>?_,?_,?_,?_,λd=>?_⟩<;>rw[e2]
 ·rw[hN,if_neg h2,if_neg h1]
 ·rw[hN,if_neg (Ne.symm hne),if_pos rfl,hi]
 ·rw[hN,if_pos rfl]
 ·unfold Ar.len;rw[nlen_ins]
 ·exact inr_ins
structure DupR (A A' B:Ar) (h:Int) (deep:Bool) (c:Nat):Prop where
 ok:ArOk A' 0
 gr:Grow A A'
 has:A'.has (A.len+1)
 par:(A'.nd (A.len+1)).par=0
 host:(A'.nd (A.len+1)).host=0
 kd:(A'.nd (A.len+1)).kind=(B.nd h).kind
 le:A'.len≤A.len+c
 sim:deep=true→Smt A' B (λz=>A.len<z) (A.len+1) h
structure DS (A1 A B:Ar) (t:Int) (l:List Int) (i:Nat) (c:Nat):Prop where
 ok:ArOk A 0
 gx:GrX t A1 A
 tn:A.nd t={A1.nd t with kids:=(A.nd t).kids}
 kl:(A.nd t).kids.length=i
 sim:∀j,j<i→Smt A B (λz=>A1.len<z) ((A.nd t).kids.getD j 0) (l.getD j 0)
 le:A.len≤A1.len+c
theorem DS.zero {l:List Int} (ok:ArOk A 0) (h:(A.nd t).kids=[]):DS A A B t l 0 0:=
 ⟨ok,.refl,rfl,by rw[h];rfl,λj hj=>absurd hj (Nat.not_lt_zero _),by omega⟩
theorem DS.up {l:List Int} {i c:Nat} (s:DS A1 A B t l i c) (ht:A1.has t) (hu:A1.up t=0∨(A1.up t≠t∧A1.has (A1.up t)∧A1.up (A1.up t)=0)):A.up t=0∨(A.up t=A1.up t∧A1.has (A1.up t)∧A.up (A.up t)=0):=by
 have e:A.up t=A1.up t:=by unfold Ar.up;rw[s.tn]
 rcases hu with hu|⟨h1,h2,h3⟩
 ·exact .inl (by rw[e,hu])
 ·refine .inr ⟨e,h2,?_⟩;rw[e,←h3];unfold Ar.up at*;rw[s.gx.nd _ h2 h1]
theorem DS.next {l:List Int} {i c c1:Nat} (s:DS A1 A B t l i c) (ht:A1.has t) (hp:isPar (A1.nd t).kind) (hu:A1.up t=0∨(A1.up t≠t∧A1.has (A1.up t)∧A1.up (A1.up t)=0))
  (r:DupR A A' B (l.getD i 0) true c1) (hk:(B.nd (l.getD i 0)).kind≠1∧(B.nd (l.getD i 0)).kind≠2):
  Fits A' t (A.len+1) 0∧DS A1 (A'.tput t (A.len+1) 0) B t l (i+1) (c+c1):=by
 have htA:=s.gx.has ht;have e0:A'.nd t=A.nd t:=r.gr.nd' htA;have hne:A.len+1≠t:=by have:=has_lt htA;omega
 have u:=s.up ht hu;have eu:A'.up t=A.up t:=by unfold Ar.up;rw[e0]
 have hu':A'.up t=0∨(A'.up t≠A.len+1∧A'.up (A'.up t)=0):=by
  rcases u with u|⟨u1,u2,u3⟩
  ·exact .inl (by rw[eu,u])
  ·have hh:=s.gx.has u2;refine .inr ⟨by rw[eu,u1];have:=has_lt hh;omega,?_⟩;rw[eu,←u3];unfold Ar.up at*;rw[r.gr.nd' (by rw[u1];exact hh)]
 obtain⟨f,q⟩:=put_last r.ok (r.gr.has htA) r.has (by rw[e0,s.tn];exact hp) (by rw[r.kd];exact hk) r.par hu' hne;refine⟨f,q.ok,⟨?_,λz hz hn=>?_,λd hd=>?_⟩,?_,?_,λj hj=>?_,?_⟩
 ·rw[q.len];exact Int.le_trans s.gx.len r.gr.len
 ·have hz':=s.gx.has hz;rw[q.gx z hn (by have:=has_lt hz';omega),r.gr.nd' hz',s.gx.nd z hz hn]
 ·rw[q.inr,r.gr.inr d (by rw[s.gx.inr d hd];exact hd),s.gx.inr d hd]
 ·rw[q.nt,e0,s.tn]
 ·rw[q.nt,e0];simp[s.kl]
 ·rw[q.nt,e0];have hkk:Kpx A' (A'.tput t (A.len+1) 0) λz=>A1.len<z∧z≠t:=⟨λz _ hz=>has_le (by rw[q.len];exact Int.le_refl _) hz,λz p hz=>by
   by_cases ez:z=A.len+1
   ·subst ez;rw[q.nk];exact⟨rfl,rfl,rfl⟩
   ·rw[q.gx z p.2 ez];exact⟨rfl,rfl,rfl⟩⟩
  have ht1:=has_lt ht;by_cases hj':j<i
  ·have e1:((A.nd t).kids++[A.len+1]).getD j 0=(A.nd t).kids.getD j 0:=by simp only[List.getD_eq_getElem?_getD];rw[List.getElem?_append_left (by rw[s.kl];exact hj')]
   rw[show({A.nd t with kids:=(A.nd t).kids++[A.len+1]}:ANode).kids=(A.nd t).kids++[A.len+1] from rfl,e1];exact(((s.sim j hj').keep r.gr.kpt .refl).mono λz hz=>⟨hz,by omega⟩).keep hkk .refl |>.mono λz hz=>hz.1
  ·obtain rfl:j=i:=by omega
   have e1:((A.nd t).kids++[A.len+1]).getD j 0=A.len+1:=by simp only[List.getD_eq_getElem?_getD];rw[List.getElem?_append_right (by rw[s.kl];exact Nat.le_refl _),s.kl];simp
   rw[show({A.nd t with kids:=(A.nd t).kids++[A.len+1]}:ANode).kids=(A.nd t).kids++[A.len+1] from rfl,e1];have:=s.gx.len;exact((r.sim rfl).mono λz hz=>⟨by omega,by have:=has_lt htA;omega⟩).keep hkk .refl |>.mono λz hz=>hz.1
 ·rw[q.len];have:=s.le;have:=r.le;omega
end
end Go.Am
end
section
namespace Go.Am
open Go
set_option maxRecDepth 100000
section
variable {A B A1 A2 A3:Ar} {x b:ANode} {h d:Int}
def Ar.likeN (A:Ar) (d:Int) (b:ANode):Ar:=
 if b.kind=1 then A.add {kind:=1,quirks:=b.quirks,doc:=A.len+1}
 else if b.kind=2 then A.add {kind:=2,doc:=d}
 else if b.kind=3 then A.add {kind:=3,doc:=d,name:=b.name,pub:=b.pub,sys:=b.sys}
 else if b.kind=5 then A.add {kind:=5,doc:=d,data:=b.data}
 else if b.kind=6 then A.add {kind:=6,doc:=d,data:=b.data}
 else A.elem d b.space b.name b.attrs
theorem core_frag (hx:NOk x) (hk:x.kind=2):x.core={kind:=2}:=by obtain⟨_,_,e1,e2,e3,e4,e5,_⟩:=hx;obtain⟨a1,a2⟩:=e1 (by omega);obtain⟨b1,b2⟩:=e3 (by omega);simp only[ANode.core,hk,a1,a2,e2 (by omega) (by omega),b1,b2,e4 (by omega) (by omega),e5 (by omega)]
theorem newF_add {n:ANode} (ok:ArOk A 0) (hx:NOk n) (hd:(n.kind=1∧n.doc=A.len+1)∨(n.kind≠1∧A.has n.doc∧(A.nd n.doc).kind=1)) (h1:n.par=0) (h2:n.kids=[]) (h3:n.cont=0) (h4:n.host=0) (h5:n.kind≠4) (co:n.core=b.core):NewF A (A.add n) b:=by
 have hN:(A.add n).nd (A.len+1)=n:=by rw[nd_add,if_pos rfl]
 refine⟨ok_add ok hx hd h1 h2 h3 h4 (λhT=>absurd hT.1 h5),grow_add ok.il,by rw[len_add];omega,has_add.2 (.inr rfl),?_,?_,?_,?_,.inl ?_⟩<;>rw[hN]
 ·exact co
 ·exact h1
 ·exact h4
 ·exact h2
 ·exact h3
theorem elem_newF {sp:Int} {nm:Bytes} {l:List Attr} (ok:ArOk A 0) (hd:A.has d∧(A.nd d).kind=1) (hs:0≤sp∧sp≤7) (hl:∀a∈l,0≤a.space∧a.space≤7) (co:({kind:=4,space:=sp,name:=nm,attrs:=once l}:ANode)=b.core):NewF A (A.elem d sp nm l) b:=by
 have o:=ok_elem (nm:=nm) ok hd hs hl;revert o;unfold Ar.elem;simp only
 split
 ·rename_i hT;intro o;have il1:(A.add {kind:=4,doc:=d,space:=sp,name:=nm,attrs:=once l}).i.length=(A.add {kind:=4,doc:=d,space:=sp,name:=nm,attrs:=once l}).n.length:=il_add' ok.il;have g1:Grow A (A.add {kind:=4,doc:=d,space:=sp,name:=nm,attrs:=once l}):=grow_add ok.il;have g2:=grow_inert (d:=d) il1;have il2:=il_inert' (d:=d) il1;have len1:(A.add {kind:=4,doc:=d,space:=sp,name:=nm,attrs:=once l}).len=A.len+1:=len_add;have h1:(A.add {kind:=4,doc:=d,space:=sp,name:=nm,attrs:=once l}).has (A.len+1):=has_add.2 (.inr rfl);have n1:(A.add {kind:=4,doc:=d,space:=sp,name:=nm,attrs:=once l}).nd (A.len+1)={kind:=4,doc:=d,space:=sp,name:=nm,attrs:=once l}:=by rw[nd_add,if_pos rfl]
  generalize hA1:A.add {kind:=4,doc:=d,space:=sp,name:=nm,attrs:=once l}=A1 at*;have l2:A1.len≤(A1.inertA d).len∧(A1.inertA d).len≤A1.len+1:=by rw[len_inert];split<;>omega
  have h2:(A1.inertA d).has (A.len+1):=g2.has h1;generalize hA2:A1.inertA d=A2 at*;have g3:Grow A2 (A2.add {kind:=2,host:=A.len+1,doc:=A1.inertH d}):=grow_add il2;have hh:(A2.add {kind:=2,host:=A.len+1,doc:=A1.inertH d}).has (A.len+1):=g3.has h2;have hN:∀z,((A2.add {kind:=2,host:=A.len+1,doc:=A1.inertH d}).set (A.len+1) {kind:=4,doc:=d,space:=sp,name:=nm,attrs:=once l,cont:=A2.len+1}).nd z=if z=A.len+1 then{kind:=4,doc:=d,space:=sp,name:=nm,attrs:=once l,cont:=A2.len+1} else(A2.add {kind:=2,host:=A.len+1,doc:=A1.inertH d}).nd z:=λz=>by rw[nd_set];simp[hh]
  refine⟨o,⟨?_,λz hz _=>?_,λq hq=>?_⟩,?_,has_set.2 hh,?_,?_,?_,?_,.inr ?_⟩
  ·rw[len_set,len_add];omega
  ·have:=has_lt hz;rw[hN,if_neg (by omega),g3.nd' (g2.has (g1.has hz)),g2.nd' (g1.has hz),g1.nd' hz]
  ·rw[inr_set,inr_add il2,g2.inr q (by rw[g1.inr q hq];exact hq),g1.inr q hq]
  ·rw[len_set,len_add];omega
  ·rw[hN,if_pos rfl];exact co
  ·rw[hN,if_pos rfl]
  ·rw[hN,if_pos rfl]
  ·rw[hN,if_pos rfl]
  ·have e1:(((A2.add {kind:=2,host:=A.len+1,doc:=A1.inertH d}).set (A.len+1) {kind:=4,doc:=d,space:=sp,name:=nm,attrs:=once l,cont:=A2.len+1}).nd (A.len+1)).cont=A2.len+1:=by rw[hN,if_pos rfl]
   rw[e1,hN,if_neg (by omega),nd_add,if_pos rfl];exact⟨by omega,rfl,rfl⟩
 ·intro o;have hN:(A.add {kind:=4,doc:=d,space:=sp,name:=nm,attrs:=once l}).nd (A.len+1)={kind:=4,doc:=d,space:=sp,name:=nm,attrs:=once l}:=by rw[nd_add,if_pos rfl]
  refine⟨o,grow_add ok.il,by rw[len_add];omega,has_add.2 (.inr rfl),?_,?_,?_,?_,.inl ?_⟩<;>rw[hN];exact co
theorem newF (ok:ArOk A 0) (nb:NOk b) (hd:A.has d∧(A.nd d).kind=1):NewF A (A.likeN d b) b:=by
 obtain⟨k,kids,e1,e2,e3,e4,e5,sp,asp,on,cT,hF,rt,nod⟩:=nb;unfold Ar.likeN;split
 ·rename_i hk;obtain⟨a1,a2⟩:=e1 (by omega);obtain⟨b1,b2⟩:=e3 (by omega);refine newF_add ok (by constructor<;>simp[once,onceF]) (.inl ⟨rfl,rfl⟩) rfl rfl rfl rfl (by simp) ?_;simp only[ANode.core,hk,a1,a2,e2 (by omega) (by omega),b1,b2,e4 (by omega) (by omega)]
 split
 ·rename_i _ hk;obtain⟨a1,a2⟩:=e1 (by omega);obtain⟨b1,b2⟩:=e3 (by omega);refine newF_add ok (by constructor<;>simp[once,onceF]) (.inr ⟨by simp,hd⟩) rfl rfl rfl rfl (by simp) ?_;simp only[ANode.core,hk,a1,a2,e2 (by omega) (by omega),b1,b2,e4 (by omega) (by omega),e5 (by omega)]
 split
 ·rename_i _ _ hk;obtain⟨a1,a2⟩:=e1 (by omega);refine newF_add ok (by constructor<;>simp[once,onceF]) (.inr ⟨by simp,hd⟩) rfl rfl rfl rfl (by simp) ?_;simp only[ANode.core,hk,a1,a2,e4 (by omega) (by omega),e5 (by omega)]
 split
 ·rename_i _ _ _ hk;obtain⟨a1,a2⟩:=e1 (by omega);obtain⟨b1,b2⟩:=e3 (by omega);refine newF_add ok (by constructor<;>simp[once,onceF]) (.inr ⟨by simp,hd⟩) rfl rfl rfl rfl (by simp) ?_;simp only[ANode.core,hk,a1,a2,e2 (by omega) (by omega),b1,b2,e5 (by omega)]
 split
 ·rename_i _ _ _ _ hk;obtain⟨a1,a2⟩:=e1 (by omega);obtain⟨b1,b2⟩:=e3 (by omega);refine newF_add ok (by constructor<;>simp[once,onceF]) (.inr ⟨by simp,hd⟩) rfl rfl rfl rfl (by simp) ?_;simp only[ANode.core,hk,a1,a2,e2 (by omega) (by omega),b1,b2,e5 (by omega)]
 ·rename_i h1 h2 h3 h5 h6;have hk:b.kind=4:=by omega
  obtain⟨b1,b2⟩:=e3 (by omega);refine elem_newF ok hd sp asp ?_;simp only[ANode.core,hk,on,b1,b2,e4 (by omega) (by omega),e5 (by omega)]
theorem NewF.ct0 (nf:NewF A A1 b) (okB:ArOk B 0) (hB:B.has h) (eb:B.nd h=b):(A1.nd (A.len+1)).cont=0↔b.cont=0:=by
 have e1:isT (A1.nd (A.len+1))↔isT b:=by
  have hk:(A1.nd (A.len+1)).core.kind=b.core.kind:=by rw[nf.co]
  have hs:(A1.nd (A.len+1)).core.space=b.core.space:=by rw[nf.co]
  have hn:(A1.nd (A.len+1)).core.name=b.core.name:=by rw[nf.co]
  unfold isT;rw[show(A1.nd (A.len+1)).kind=b.kind from hk,show(A1.nd (A.len+1)).space=b.space from hs,show(A1.nd (A.len+1)).name=b.name from hn]
 have hne:A.len+1≠0:=by have:=nf.has.1;omega
 have h1:(A1.nd (A.len+1)).cont≠0↔isT (A1.nd (A.len+1)):=⟨(nf.ok.nok _ nf.has).contT,nf.ok.tpl _ nf.has hne⟩;have h2:b.cont≠0↔isT b:=by rw[←eb];exact⟨(okB.nok _ hB).contT,okB.tpl _ hB (by have:=hB.1;omega)⟩
 have h3:(A1.nd (A.len+1)).cont≠0↔b.cont≠0:=h1.trans (e1.trans h2.symm);constructor
 ·intro h;exact Decidable.byContradiction λhh=>h3.2 hh h
 ·intro h;exact Decidable.byContradiction λhh=>h3.1 hh h
theorem kind_of_core {x y:ANode} (h:x.core=y.core):x.kind=y.kind:=by have:=congrArg ANode.kind h;exact this
theorem dup_shallow (nf:NewF A A1 (B.nd h)):DupR A A1 B h false 3:=
 ⟨nf.ok,nf.gr,nf.has,nf.par,nf.host,kind_of_core nf.co,nf.le,nofun⟩
theorem dup_deep (okB:ArOk B 0) (hB:B.has h) (nf:NewF A A1 (B.nd h)) {c2 c3:Nat}
  (s2:((B.nd h).cont=0∧A2=A1∧c2=0)∨((B.nd h).cont≠0∧DS A1 A2 B (A1.nd (A.len+1)).cont (B.nd (B.nd h).cont).kids (B.nd (B.nd h).cont).kids.length c2))
  (s3:DS A2 A3 B (A.len+1) (B.nd h).kids (B.nd h).kids.length c3):DupR A A3 B h true (3+c2+c3):=by
 have c0:=nf.ct0 okB hB rfl;have hlt:=has_lt nf.has;have k2:(A2.nd (A.len+1))=A1.nd (A.len+1)∧A1.len≤A2.len∧A2.len≤A1.len+c2∧(∀z,A.has z→A2.nd z=A1.nd z)∧(∀d,A1.inr d≠0→A2.inr d=A1.inr d):=by
  rcases s2 with⟨_,rfl,rfl⟩|⟨hc,s2⟩
  ·exact⟨rfl,Int.le_refl _,by omega,λ_ _=>rfl,λ_ _=>rfl⟩
  ·have hc1:(A1.nd (A.len+1)).cont≠0:=λe=>hc (c0.1 e);have hg:=(nf.ct.resolve_left hc1).1;exact⟨s2.gx.nd _ nf.has (by omega),s2.gx.len,s2.le,λz hz=>s2.gx.nd z (nf.gr.has hz) (by have:=has_lt hz;omega),s2.gx.inr⟩
 obtain⟨e2,l2,m2,o2,i2⟩:=k2;have hc2:A2.has (A.len+1):=has_le l2 nf.has;have e3:A3.nd (A.len+1)={A1.nd (A.len+1) with kids:=(A3.nd (A.len+1)).kids}:=by rw[←e2];exact s3.tn
 have hc3:=s3.gx.has hc2;refine⟨s3.ok,⟨?_,λz hz _=>?_,λd hd=>?_⟩,hc3,?_,?_,?_,?_,λ_=>?_⟩
 ·have:=nf.gr.len;have:=s3.gx.len;omega
 ·have:=has_lt hz;rw[s3.gx.nd z (has_le l2 (nf.gr.has hz)) (by omega),o2 z hz,nf.gr.nd' hz]
 ·have h1:=nf.gr.inr d hd;have h2:=i2 d (by rw[h1];exact hd);rw[s3.gx.inr d (by rw[h2,h1];exact hd),h2,h1]
 ·rw[e3];exact nf.par
 ·rw[e3];exact nf.host
 ·rw[e3];exact kind_of_core nf.co
 ·have:=nf.le;have:=s3.le;omega
 ·refine .mk (by omega) hc3 hB ?_ s3.kl ?_ ?_ ?_
  ·rw[e3];exact nf.co
  ·rw[e3];exact c0
  ·intro hct;rw[show(A3.nd (A.len+1)).cont=(A1.nd (A.len+1)).cont by rw[e3]] at hct⊢;rcases s2 with⟨hc,_⟩|⟨hc,s2⟩
   ·exact absurd (c0.2 hc) hct
   ·obtain⟨g1,g2,g3⟩:=nf.ct.resolve_left hct;obtain⟨p1,p2,p3⟩:=s2.ok.cont _ hc2 (by rw[e2];exact hct);rw[e2] at p1 p2 p3;obtain⟨q1,q2,q3⟩:=okB.cont _ hB hc;have z1:(A2.nd (A1.nd (A.len+1)).cont).cont=0:=Decidable.byContradiction λhh=>by have:=((s2.ok.nok _ p1).contT hh).1;omega
    have z2:(B.nd (B.nd h).cont).cont=0:=Decidable.byContradiction λhh=>by have:=((okB.nok _ q1).contT hh).1;omega
    have hs:Smt A2 B (λz=>A.len<z∧z≠A.len+1) (A1.nd (A.len+1)).cont (B.nd h).cont:=by refine .mk ⟨by omega,by omega⟩ p1 q1 (by rw[core_frag (s2.ok.nok _ p1) p2,core_frag (okB.nok _ q1) q2]) s2.kl (by rw[z1,z2]) (λhh=>absurd z1 hh) λi hi=>?_;exact(s2.sim i (by rw[←s2.kl];exact hi)).mono λz hz=>⟨by omega,by omega⟩
    exact(hs.keep (s3.gx.kpt λz hz=>hz.2) .refl).mono λz hz=>hz.1
  ·intro i hi;exact(s3.sim i (by rw[←s3.kl];exact hi)).mono λz hz=>by omega
end
end Go.Am
end
section
namespace Go.Am
open Go
set_option maxRecDepth 100000
section
variable {A B A1 A2 A':Ar} {x b:ANode} {h d k t z e:Int} {g:ANode→Nat}
def Wt (A:Ar) (g:ANode→Nat):Nat:=(A.n.map g).sum
theorem sum_set:∀{l:List Nat} {i:Nat} (hi:i<l.length) (v:Nat),(l.set i v).sum+l[i]=l.sum+v
 |a::l,0,_,v=>by simp;omega
 |a::l,i+1,hi,v=>by have:=sum_set (l:=l) (i:=i) (by simpa using hi) v;simp at*;omega
theorem Wt.add:Wt (A.add x) g=Wt A g+g x:=by simp[Wt,Ar.add]
theorem nd_get (hh:A.has h):h.toNat-1<A.n.length∧∀(hl:h.toNat-1<A.n.length),A.nd h=A.n[h.toNat-1]:=by
 have hl:h.toNat-1<A.n.length:=by unfold Ar.has at hh;omega
 refine⟨hl,λ_=>?_⟩;unfold Ar.nd;rw[if_pos hh,List.getD_eq_getElem?_getD,List.getElem?_eq_getElem hl];rfl
theorem Wt.set (hh:A.has h):Wt (A.set h x) g+g (A.nd h)=Wt A g+g x:=by obtain⟨hl,e⟩:=nd_get hh;unfold Wt Ar.set;rw[if_pos hh,List.map_set,e hl];have:=sum_set (l:=A.n.map g) (i:=h.toNat-1) (by simpa using hl) (g x);simpa using this
theorem Wt.no (hh:¬A.has h):Wt (A.set h x) g=Wt A g:=by unfold Wt Ar.set;rw[if_neg hh]
theorem Wt.same (hg:g x=g (A.nd h)):Wt (A.set h x) g=Wt A g:=by
 by_cases hh:A.has h
 ·have:=Wt.set (x:=x) (g:=g) hh;omega
 ·exact Wt.no hh
theorem Wt.setI:Wt (A.setI h d) g=Wt A g:=rfl
theorem Wt.inert (hg:∀d,g {kind:=1,doc:=d}=0):Wt (A.inertA d) g=Wt A g:=by
 unfold Ar.inertA;split
 ·rfl
 ·rw[Wt.setI,Wt.setI,Wt.add,hg];rfl
def gS (x:ANode):Nat:=x.data.length
def gU (x:ANode):Nat:=if x.par=0 then 0 else x.data.length
theorem sum_le {l:List ANode} {f g:ANode→Nat} (h:∀x,f x≤g x):(l.map f).sum≤(l.map g).sum:=by
 induction l with
 |nil=>exact Nat.le_refl _
 |cons a l ih=>have:=h a;simp;omega
theorem U_le:Wt A gU≤Wt A gS:=sum_le λx=>by unfold gU gS;split<;>omega
theorem S_setK {l:List Int}:Wt (A.set h {A.nd h with kids:=l}) gS=Wt A gS:=Wt.same rfl
theorem S_setP {p:Int}:Wt (A.set h {A.nd h with par:=p}) gS=Wt A gS:=Wt.same rfl
theorem S_cut:Wt (A.cut h) gS=Wt A gS:=by
 unfold Ar.cut;simp only;split
 ·rfl
 ·rw[S_setP,S_setK]
theorem S_tput {p n b:Int}:Wt (A.tput p n b) gS=Wt A gS:=by
 unfold Ar.tput;split
 ·unfold Ar.ins;simp only;rw[S_setP,S_setK,S_cut]
 ·rfl
theorem S_inert:Wt (A.inertA d) gS=Wt A gS:=Wt.inert λ_=>rfl
theorem S_elem {sp:Int} {nm:Bytes} {l:List Attr}:Wt (A.elem d sp nm l) gS=Wt A gS:=by
 unfold Ar.elem;simp only
 split
 ·rename_i hT;have hh:(((A.add {kind:=4,doc:=d,space:=sp,name:=nm,attrs:=once l}).inertA d).add {kind:=2,host:=A.len+1,doc:=(A.add {kind:=4,doc:=d,space:=sp,name:=nm,attrs:=once l}).inertH d}).nd (A.len+1)={kind:=4,doc:=d,space:=sp,name:=nm,attrs:=once l}:=by have h1:(A.add {kind:=4,doc:=d,space:=sp,name:=nm,attrs:=once l}).has (A.len+1):=has_add.2 (.inr rfl);have h2:=has_inert (h:=d) h1;rw[nd_add,if_neg (by have:=has_lt h2;omega),nd_inert (.inl (by rw[len_add];omega)),nd_add,if_pos rfl]
  rw[Wt.same (by rw[hh];rfl),Wt.add,S_inert,Wt.add];rfl
 ·rw[Wt.add];rfl
theorem reach_lin (h1:Reach A k z):∀{t:Int},Reach A t z→Reach A k t∨Reach A t k:=by
 induction h1 with
 |refl=>intro t h2;exact .inr h2
 |step h3 h4 ih=>
  intro t h2
  cases h2 with
  |refl=>exact .inl (.step h3 h4)
  |step h5 h6=>exact ih h6
theorem reach_le {r:Int→Nat} (ok:ArOk A e) (hr:∀h,A.has h→A.up h≠0→r (A.up h)<r h) (h:Reach A k z) (hz:A.has z):r k≤r z:=by
 induction h with
 |refl=>exact Nat.le_refl _
 |step h1 h2 ih=>have:=hr _ hz h1;have:=ih (up_has ok hz h1);omega
theorem reach_trans (h1:Reach A k z) (h2:Reach A t k):Reach A t z:=by
 induction h1 with
 |refl=>exact h2
 |step h3 h4 ih=>exact .step h3 ih
open Classical in
noncomputable def Below' (A:Ar) (g:Int→Nat) (x:Int):Nat:=((List.range A.n.length).map λi:Nat=>if Reach A x ((i:Int)+1) then g ((i:Int)+1) else 0).sum
open Classical in
theorem sum_swap (L:List Nat) (g:Nat→Nat) (ks:List Int) (p:Int→Nat→Prop) (q:Nat→Nat) (h:∀i∈L,(ks.map λk=>if p k i then g i else 0).sum≤q i):
  (ks.map λk=>(L.map λi=>if p k i then g i else 0).sum).sum≤(L.map q).sum:=by
 induction L with
 |nil=>
  clear h
  induction ks with
  |nil=>exact Nat.le_refl _
  |cons k ks ih=>simpa using ih
 |cons a L ih=>
  have h1:=ih λi hi=>h i (List.mem_cons_of_mem _ hi);have h2:=h a (by simp);have h3:(ks.map λk=>((a::L).map λi=>if p k i then g i else 0).sum).sum=(ks.map λk=>if p k a then g a else 0).sum+(ks.map λk=>(L.map λi=>if p k i then g i else 0).sum).sum:=by
   clear h1 h2 ih h
   induction ks with
   |nil=>rfl
   |cons k ks ih=>simp only[List.map_cons,List.sum_cons] at*;omega
  rw[h3,List.map_cons,List.sum_cons];omega
open Classical in
theorem one_ofT (ks:List Int) (p:Int→Prop) (v:Nat) (hn:ks.Nodup) (h:∀a∈ks,∀b∈ks,p a→p b→a=b):(ks.map λk=>if p k then v else 0).sum≤v∧((∀a∈ks,¬p a)→(ks.map λk=>if p k then v else 0).sum=0):=by
 induction ks with
 |nil=>simp
 |cons a ks ih=>
  obtain⟨n1,n2⟩:=List.nodup_cons.1 hn;obtain⟨i1,i2⟩:=ih n2 λx hx y hy=>h x (List.mem_cons_of_mem _ hx) y (List.mem_cons_of_mem _ hy);constructor
  ·by_cases pa:p a
   ·have:=i2 λb hb pb=>n1 (by rw[h a (by simp) b (List.mem_cons_of_mem _ hb) pa pb];exact hb);simp only[List.map_cons,List.sum_cons,if_pos pa,this];omega
   ·simp only[List.map_cons,List.sum_cons,if_neg pa];omega
  ·intro hh;simp only[List.map_cons,List.sum_cons,if_neg (hh a (by simp))];rw[i2 λb hb=>hh b (List.mem_cons_of_mem _ hb)]
def Kin (A:Ar) (x:Int) (ks:List Int):Prop:=ks.Nodup∧∀k∈ks,A.has k∧A.up k=x
theorem below_sum (ok:ArOk A e) (g:Int→Nat) (hx:A.has h) {ks:List Int} (hk:Kin A h ks):(ks.map (Below' A g)).sum+g h≤Below' A g h:=by
 obtain⟨r,hr⟩:=ok.rank;have hx0:h≠0:=by have:=hx.1;omega
 have low:∀k∈ks,r h<r k:=λk hm=>by
  obtain⟨h1,h2⟩:=hk.2 k hm;have:=hr k h1 (by rw[h2];exact hx0)
  rwa [h2] at this
 have one:∀z,A.has z→∀a∈ks,∀b∈ks,Reach A a z→Reach A b z→a=b:=λz hz a ha b hb h1 h2=>Decidable.byContradiction λhne=>by
  have key:∀a∈ks,∀b∈ks,a≠b→¬Reach A a b:=λa ha b hb hne hr'=>by
   rcases reach_root hr' with h3|⟨_,h3⟩
   ·exact hne h3
   ·rw[(hk.2 b hb).2] at h3;have:=reach_le ok hr h3 hx;have:=low a ha;omega
  rcases reach_lin h1 h2 with h3|h3
  ·exact key a ha b hb hne h3
  ·exact key b hb a ha (Ne.symm hne) h3
 classical
 have hq:(ks.map (Below' A g)).sum≤((List.range A.n.length).map λi:Nat=>if Reach A h ((i:Int)+1)∧(i:Int)+1≠h then g ((i:Int)+1) else 0).sum:=by
  refine sum_swap (List.range A.n.length) (λi=>g ((i:Int)+1)) ks (λk i=>Reach A k ((i:Int)+1)) _ λi hi=>?_;have hz:A.has ((i:Int)+1):=by have:=List.mem_range.1 hi;unfold Ar.has;omega
  obtain⟨o1,o2⟩:=one_ofT ks (λk=>Reach A k ((i:Int)+1)) (g ((i:Int)+1)) hk.1 (one _ hz);by_cases hr1:Reach A h ((i:Int)+1)∧(i:Int)+1≠h
  ·rw[if_pos hr1];exact o1
  ·rw[if_neg hr1,o2 λa ha hra=>hr1 ⟨?_,λe1=>?_⟩]
   ·exact Nat.le_refl _
   ·have hu:Reach A h a:= .step (by rw[(hk.2 a ha).2];exact hx0) (by rw[(hk.2 a ha).2];exact .refl);exact reach_trans hra hu
   ·rw[e1] at hra;have:=reach_le ok hr hra hx;have:=low a ha;omega
 have hs:((List.range A.n.length).map λi:Nat=>if Reach A h ((i:Int)+1)∧(i:Int)+1≠h then g ((i:Int)+1) else 0).sum+g h≤Below' A g h:=by
  unfold Below';obtain⟨j,hj⟩:∃j:Nat,h=(j:Int)+1:=⟨h.toNat-1,by have:=hx.1;omega⟩;have hjl:j∈List.range A.n.length:=List.mem_range.2 (by have:=hx.2;omega);have gen:∀L:List Nat,j∈L→(L.map λi:Nat=>if Reach A h ((i:Int)+1)∧(i:Int)+1≠h then g ((i:Int)+1) else 0).sum+g h≤(L.map λi:Nat=>if Reach A h ((i:Int)+1) then g ((i:Int)+1) else 0).sum:=by
   have le:∀L:List Nat,(L.map λi:Nat=>if Reach A h ((i:Int)+1)∧(i:Int)+1≠h then g ((i:Int)+1) else 0).sum≤(L.map λi:Nat=>if Reach A h ((i:Int)+1) then g ((i:Int)+1) else 0).sum:=λL=>by
    induction L with
    |nil=>exact Nat.le_refl _
    |cons a L ih=>
     simp only[List.map_cons,List.sum_cons];by_cases h1:Reach A h ((a:Int)+1)
     ·by_cases h2:(a:Int)+1=h
      ·rw[if_neg (λhh=>hh.2 h2),if_pos h1];omega
      ·rw[if_pos ⟨h1,h2⟩,if_pos h1];omega
     ·rw[if_neg (λhh=>h1 hh.1),if_neg h1];omega
   intro L
   induction L with
   |nil=>intro h;cases h
   |cons a L ih=>
    intro hm;simp only[List.map_cons,List.sum_cons];rcases List.mem_cons.1 hm with rfl|hm
    ·have:=le L;rw[if_neg (λhh=>hh.2 hj.symm),if_pos (by rw[←hj];exact .refl),←hj];omega
    ·have:=ih hm;by_cases h1:Reach A h ((a:Int)+1)
     ·by_cases h2:(a:Int)+1=h
      ·rw[if_neg (λhh=>hh.2 h2),if_pos h1];omega
      ·rw[if_pos ⟨h1,h2⟩,if_pos h1];omega
     ·rw[if_neg (λhh=>h1 hh.1),if_neg h1];omega
  exact gen _ hjl
 omega
theorem kin_kids (ok:ArOk A e) (hx:A.has h):Kin A h (A.nd h).kids:=⟨(ok.nok h hx).nod,λk hk=>by obtain⟨h1,h2⟩:=ok.kid h hx k hk;exact⟨h1,by unfold Ar.up;rw[h2,if_pos (by have:=hx.1;omega)]⟩⟩
theorem cont_up (ok:ArOk A e) (hx:A.has h) (hc:(A.nd h).cont≠0):A.has (A.nd h).cont∧A.up (A.nd h).cont=h∧(A.nd (A.nd h).cont).kind=2:=by obtain⟨h1,h2,h3⟩:=ok.cont h hx hc;refine⟨h1,?_,h2⟩;have hp:(A.nd (A.nd h).cont).par=0:=Decidable.byContradiction λhh=>((ok.nok _ h1).root hh).2 h2;unfold Ar.up;rw[hp,if_neg (by simp),h3]
theorem kin_all (ok:ArOk A e) (hx:A.has h) (hc:(A.nd h).cont≠0):Kin A h ((A.nd h).cont::(A.nd h).kids):=by
 obtain⟨h1,h2,h3⟩:=cont_up ok hx hc;obtain⟨k1,k2⟩:=kin_kids ok hx;refine⟨List.nodup_cons.2 ⟨λhm=>?_,k1⟩,λk hk=>?_⟩
 ·obtain⟨h4,h5⟩:=ok.kid h hx _ hm;exact((ok.nok _ h4).root (by rw[h5];have:=hx.1;omega)).2 h3
 ·rcases List.mem_cons.1 hk with rfl|hk
  ·exact⟨h1,h2⟩
  ·exact k2 k hk
theorem below_all {g:Int→Nat}:Below' A g h≤((List.range A.n.length).map λi:Nat=>g ((i:Int)+1)).sum:=by
 classical
 unfold Below';generalize List.range A.n.length=L
 induction L with
 |nil=>exact Nat.le_refl _
 |cons a L ih=>simp only[List.map_cons,List.sum_cons];split<;>omega
theorem below_one:Below' A (λ_=>1) h≤A.n.length:=by
 refine Nat.le_trans below_all ?_;have:∀L:List Nat,(L.map λ_=>1).sum=L.length:=λL=>by induction L with
  |nil=>rfl
  |cons a L ih=>simp only[List.map_cons,List.sum_cons,List.length_cons,ih];omega
 rw[this,List.length_range];exact Nat.le_refl _
theorem below_S:Below' A (λx=>(A.nd x).data.length) h≤Wt A gS:=by
 refine Nat.le_trans below_all (Nat.le_of_eq ?_);have:((List.range A.n.length).map λi:Nat=>(A.nd ((i:Int)+1)).data.length)=A.n.map gS:=by
  apply List.ext_getElem
  ·simp
  ·intro i h1 h2;have hl:i<A.n.length:=by simpa using h1
   have hh:A.has ((i:Int)+1):=by unfold Ar.has;omega
   have e:=(nd_get hh).2 (by have:=(nd_get hh).1;exact this);simp only[List.getElem_map,List.getElem_range,e,gS]
   congr 2
 rw[this];rfl
end
end Go.Am
end
