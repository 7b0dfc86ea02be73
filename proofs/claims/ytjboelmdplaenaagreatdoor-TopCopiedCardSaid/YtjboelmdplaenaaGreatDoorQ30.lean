/- Lemmas -/
import Derived.Test.YtjboelmdplaenaaGreatDoorQ29
import Derived.Test.YtjboelmdplaenaaGreatDoorQ8
set_option linter.unusedVariables false
set_option linter.unusedSimpArgs false
namespace Go.Am
open Go
set_option maxRecDepth 100000
abbrev tAttr:Ty:= .st [.int .i64,.str,.str]
abbrev tLOp:Ty:= .st [.int .i64,.int .i64,.int .i64,.int .i64,.bool,.int .i64,.str,.str,.str,.sl tAttr]
theorem rows_mapT {α:Type} {P:List AVal→Prop} {f:α→List AVal} {Q:α→Prop} (h:∀r,P r→∃a,r=f a∧Q a):∀{rows:List (List AVal)},(∀r∈rows,P r)→∃l:List α,rows=l.map f∧∀a∈l,Q a
 |[],_=>⟨[],rfl,by simp⟩
 |r::rows,hr=>by obtain⟨a,rfl,hq⟩:=h r (hr r (by simp));obtain⟨l,rfl,hl⟩:=rows_mapT h (rows:=rows) λr h=>hr r (by simp[h]);exact⟨a::l,rfl,by simpa[hq] using hl⟩
theorem has_sl {α:Type} {e:Ty} {f:α→List AVal} {Q:α→Prop} (h:∀r,Has e r→∃a,r=f a∧Q a) {v:AVal} (hv:Has (.sl e) [v]):∃l:List α,IsSl (Ty.size e) (l.map f) v∧l.length≤maxLen∧∀a∈l,Q a:=by
 unfold Has at hv;rcases hv with e1|⟨rows,e1,hl,hr⟩
 ·cases e1
  exact⟨[],.nil,by simp,by simp⟩
 ·cases e1
  obtain⟨l,rfl,hq⟩:=rows_mapT h hr;exact⟨l,.mk,by simpa using hl,hq⟩
theorem has_int {r:List AVal} {k:IntKind} (h:Has (.int k) r):∃n,r=[.int k n]∧(Lit.int k n).wf=true:=h
theorem has_str {r:List AVal} (h:Has .str r):∃s:Bytes,r=[.str s]:=let⟨n,e,_⟩:=h;⟨n,e⟩
theorem has_bool {r:List AVal} (h:Has .bool r):∃b,r=[.bool b]:=h
theorem hasL_cons {t:Ty} {ts:List Ty} {l:List AVal} (h:HasL (t::ts) l):∃a b,l=a++b∧Has t a∧HasL ts b:=h
theorem hasL_nil {l:List AVal} (h:HasL [] l):l=[]:=h
theorem hasSl_one {e:Ty} {r:List AVal} (h:Has (.sl e) r):∃v,r=[v]∧Has (.sl e) [v]:=by have h':=h;unfold Has at h';rcases h' with rfl|⟨rows,rfl,_⟩<;>exact⟨_,rfl,h⟩
theorem has_attr (r:List AVal) (h:Has tAttr r):∃a:Attr,r=a.row∧True:=by obtain⟨x1,y1,rfl,h1,h⟩:=hasL_cons h;obtain⟨x2,y2,rfl,h2,h⟩:=hasL_cons h;obtain⟨x3,y3,rfl,h3,h⟩:=hasL_cons h;obtain rfl:=hasL_nil h;obtain⟨n,rfl,_⟩:=has_int h1;obtain⟨s,rfl⟩:=has_str h2;obtain⟨t,rfl⟩:=has_str h3;exact⟨⟨n,s,t⟩,rfl,trivial⟩
structure LQ where
 o:LOp
 v:AVal
 ok:IsAttrs o.attrs v
def LQ.row (q:LQ):List AVal:=q.o.row q.v
abbrev IsLops (l:List LQ) (v:AVal):Prop:=IsSl 10 (l.map LQ.row) v
theorem has_lop (r:List AVal) (h:Has tLOp r):∃a:LQ,r=a.row∧True:=by obtain⟨x1,y1,rfl,h1,h⟩:=hasL_cons h;obtain⟨x2,y2,rfl,h2,h⟩:=hasL_cons h;obtain⟨x3,y3,rfl,h3,h⟩:=hasL_cons h;obtain⟨x4,y4,rfl,h4,h⟩:=hasL_cons h;obtain⟨x5,y5,rfl,h5,h⟩:=hasL_cons h;obtain⟨x6,y6,rfl,h6,h⟩:=hasL_cons h;obtain⟨x7,y7,rfl,h7,h⟩:=hasL_cons h;obtain⟨x8,y8,rfl,h8,h⟩:=hasL_cons h;obtain⟨x9,y9,rfl,h9,h⟩:=hasL_cons h;obtain⟨x0,y0,rfl,h0,h⟩:=hasL_cons h;obtain rfl:=hasL_nil h;obtain⟨n1,rfl,_⟩:=has_int h1;obtain⟨n2,rfl,_⟩:=has_int h2;obtain⟨n3,rfl,_⟩:=has_int h3;obtain⟨n4,rfl,_⟩:=has_int h4;obtain⟨b5,rfl⟩:=has_bool h5;obtain⟨n6,rfl,_⟩:=has_int h6;obtain⟨s7,rfl⟩:=has_str h7;obtain⟨s8,rfl⟩:=has_str h8;obtain⟨s9,rfl⟩:=has_str h9;obtain⟨v,rfl,h0⟩:=hasSl_one h0;obtain⟨l,h0,_,_⟩:=has_sl has_attr h0;exact⟨⟨⟨n1,n2,n3,n4,b5,n6,s7,s8,s9,l⟩,v,h0⟩,rfl,trivial⟩
theorem hasV_lops {v:AVal} (h:HasV (.sl tLOp) v):∃l:List LQ,IsLops l v:=by have h:Has (.sl tLOp) [v]:=h;obtain⟨l,h1,_,_⟩:=has_sl has_lop h;exact⟨l,h1⟩
def attrsOkB (l:List Attr):Prop:=l.length≤20∧∀x∈l,x.name.length≤400∧x.value.length≤400
instance (l:List Attr):Decidable (attrsOkB l):=by unfold attrsOkB;infer_instance
section
variable {h:AHeap}
theorem f9 {v:AVal} {l:List Attr} (hv:IsAttrs l v) (h:AHeap):Ret cx 84 [v] h (.bool (decide (attrsOkB l))) h:=by
 have hv':IsSl 3 (l.map Attr.row) v:=hv;have lm:=IsSl.lenM hv;rw[ret_iff,t84_eq,t84];refine W_loop_st (λn:Nat=>[ff,.int .i64 (n:Int)]) (λn h1=>n≤l.length∧n≤21∧(∀x∈l.take n,x.name.length≤400∧x.value.length≤400)∧h1=h) (λn=>l.length-n) 0 rfl ⟨Nat.zero_le _,Nat.zero_le _,by simp,rfl⟩ ?_;rintro n h1 ⟨hn,hb,ha,rfl⟩;rcases Nat.lt_or_ge n l.length with hlt|hge
 ·have e1:=IsSl.eaddrM (k:= .i64) hv hlt;rw[Attr.row] at e1;have hno:¬(l[n].name.length≤400∧l[n].value.length≤400)→¬attrsOkB l:=λh1 h2=>h1 (h2.2 _ (List.getElem_mem hlt));by_cases hb2:n≤20
  ·by_cases c1:(400:Int)<(l[n].name.length:Int)
   ·have e:decide (attrsOkB l)=false:=decide_eq_false (hno (by omega));rw[e];simp only[amS,bxS,lm,show(n:Int)<(l.length:Int) by omega,show(n:Int)≤20 by omega,e1,c1]
   ·by_cases c2:(400:Int)<(l[n].value.length:Int)
    ·have e:decide (attrsOkB l)=false:=decide_eq_false (hno (by omega));rw[e];simp only[amS,bxS,lm,show(n:Int)<(l.length:Int) by omega,show(n:Int)≤20 by omega,e1,c1,c2]
    ·simp only[amS,bxS,lm,show(n:Int)<(l.length:Int) by omega,show(n:Int)≤20 by omega,e1,c1,c2,pe_incN n];refine LoopPost.next (n+1) rfl ⟨hlt,by omega,λx hx=>?_,rfl⟩ (by omega);rw[List.take_succ_eq_append_getElem hlt,List.mem_append,List.mem_singleton] at hx;rcases hx with hx|rfl
     ·exact ha x hx
     ·exact⟨by omega,by omega⟩
  ·have e:decide (attrsOkB l)=false:=decide_eq_false λh=>by have:=h.1;omega
   rw[e];simp only[amS,bxS,lm,show(n:Int)<(l.length:Int) by omega,show¬(n:Int)≤20 by omega,show¬(l.length:Int)≤20 by omega,decide_false]
 ·rw[List.take_of_length_le hge] at ha;have e2:decide (attrsOkB l)=decide ((l.length:Int)≤20):=by rw[decide_eq_decide];exact⟨λh=>by have:=h.1;omega,λh=>⟨by omega,ha⟩⟩
  rw[e2];simp only[amS,bxS,lm,show¬(n:Int)<(l.length:Int) by omega]
theorem f630 (q:LQ) (h:AHeap):∃b,Ret cx 43 [.agg q.row] h (.bool b) h∧(b=true→q.o.Ok):=by
 have r9:=f9 q.ok h;have hav:q.v.cells=[q.v]:=IsSl.cells q.ok;rw[LQ.row,LOp.row];by_cases c1:(400:Int)<(q.o.name.length:Int)
 ·exact⟨false,by rw[ret_iff,t43_eq,t43];simp only[amS,Nat.reduceLeDiff,↓reduceIte,bxS,c1],nofun⟩
 by_cases c2:(400:Int)<(q.o.s.length:Int)
 ·exact⟨false,by rw[ret_iff,t43_eq,t43];simp only[amS,Nat.reduceLeDiff,↓reduceIte,bxS,c1,c2],nofun⟩
 by_cases c3:(400:Int)<(q.o.pub.length:Int)
 ·exact⟨false,by rw[ret_iff,t43_eq,t43];simp only[amS,Nat.reduceLeDiff,↓reduceIte,bxS,c1,c2,c3],nofun⟩
 refine⟨decide (attrsOkB q.o.attrs),by rw[ret_iff,t43_eq,t43];simp only[amS,Nat.reduceLeDiff,↓reduceIte,bxS,c1,c2,c3,r9],λhb=>?_⟩;have hb:=of_decide_eq_true hb;exact⟨by omega,by omega,by omega,hb.1,hb.2⟩
theorem f621 {v:AVal} {l:List LQ} (hv:IsLops l v) (h:AHeap):∃b,Ret cx 17 [v,I 40] h (.bool b) h∧(b=true→l.length≤40∧∀q∈l,q.o.Ok):=by
 have lm:=IsSl.lenM hv;have hev:Ev cx 17 [v,I 40] h λr h'=>∃b,r= .bool b∧h'=h∧(b=true→l.length≤40∧∀q∈l,q.o.Ok):=by
  unfold Ev;rw[t17_eq,t17];refine W_loop_st (λn:Nat=>[ff,.int .i64 (n:Int)]) (λn h1=>n≤l.length∧(∀x∈l.take n,x.o.Ok)∧h1=h) (λn=>l.length-n) 0 rfl ⟨Nat.zero_le _,by simp,rfl⟩ ?_;rintro n h1 ⟨hn,ha,rfl⟩;rcases Nat.lt_or_ge n l.length with hlt|hge
  ·have e1:=IsSl.eaddrM (k:= .i64) hv hlt;have e2:hload h1 (some 10) (.rptr (LQ.row l[n]))=some (.agg (LQ.row l[n])):=rfl;by_cases hb:(n:Int)≤40
   ·obtain⟨b,r1,hb1⟩:=f630 l[n] h1
    cases b
    ·simp only[amS,Nat.reduceLeDiff,↓reduceIte,bxS,lm,show(n:Int)<(l.length:Int) by omega,hb,e1,e2,r1];exact⟨_,rfl,false,by simp,nofun⟩
    ·simp only[amS,Nat.reduceLeDiff,↓reduceIte,bxS,lm,show(n:Int)<(l.length:Int) by omega,hb,e1,e2,r1,pe_incN n];refine LoopPost.next (n+1) rfl ⟨hlt,λx hx=>?_,rfl⟩ (by omega);rw[List.take_succ_eq_append_getElem hlt,List.mem_append,List.mem_singleton] at hx;rcases hx with hx|rfl
     ·exact ha x hx
     ·exact hb1 rfl
   ·simp only[amS,Nat.reduceLeDiff,↓reduceIte,bxS,lm,show(n:Int)<(l.length:Int) by omega,hb,show¬(l.length:Int)≤40 by omega];exact⟨_,rfl,false,by simp,nofun⟩
  ·rw[List.take_of_length_le hge] at ha;simp only[amS,Nat.reduceLeDiff,↓reduceIte,bxS,lm,show¬(n:Int)<(l.length:Int) by omega];exact⟨_,rfl,_,rfl,λhb=>⟨by have:=of_decide_eq_true hb;omega,ha⟩⟩
 obtain⟨_,_,r1,b,rfl,rfl,hb⟩:=hev.ret;exact⟨b,r1,hb⟩
def cnt (l:List LQ):Nat:=(l.filter λq=>decide (q.o.kind=31∨q.o.kind=32)).length
theorem cnt_next {l:List LQ} {n:Nat} (hlt:n<l.length):cnt (l.take (n+1))=cnt (l.take n)+if l[n].o.kind=31∨l[n].o.kind=32 then 1 else 0:=by
 unfold cnt;rw[List.take_succ_eq_append_getElem hlt,List.filter_append,List.length_append]
 congr 1
 by_cases hc:l[n].o.kind=31∨l[n].o.kind=32
 ·rw[if_pos hc,List.filter_cons_of_pos (by simpa using hc)];rfl
 ·rw[if_neg hc,List.filter_cons_of_neg (by simpa using hc)];rfl
theorem cnt_mono {l:List LQ} {n:Nat}:cnt (l.take n)≤cnt l:=by unfold cnt;have:(l.take n).Sublist l:=List.take_sublist n l;exact(this.filter _).length_le
theorem cnt_le {l:List LQ}:cnt l≤l.length:=List.length_filter_le _ _
theorem f614 {v:AVal} {l:List LQ} (hv:IsLops l v) (h:AHeap):∃b,Ret cx 4 [v,I 40] h (.bool b) h∧(b=true→l.length≤40∧cnt l≤8∧∀q∈l,q.o.Ok):=by
 have lm:=IsSl.lenM hv;obtain⟨b1,r21,hb1⟩:=f621 hv h;have hev:Ev cx 4 [v,I 40] h λr h'=>∃b,r= .bool b∧h'=h∧(b=true→l.length≤40∧cnt l≤8∧∀q∈l,q.o.Ok):=by
  unfold Ev;rw[t4_eq,t4];refine W_loop_st (λn:Nat=>[.int .i64 (cnt (l.take n):Int),.int .i64 (n:Int)]) (λn h1=>n≤l.length∧n≤41∧h1=h) (λn=>l.length-n) 0 rfl ⟨Nat.zero_le _,Nat.zero_le _,rfl⟩ ?_;rintro n h1 ⟨hn,h41,rfl⟩;rcases Nat.lt_or_ge n l.length with hlt|hge
  ·have e1:=IsSl.eaddrM (k:= .i64) hv hlt;rw[LQ.row,LOp.row] at e1;have hcl:cnt (l.take n)≤n:=Nat.le_trans cnt_le (by rw[List.length_take];omega);by_cases hb:(n:Int)≤40
   ·have nx:=cnt_next hlt;by_cases c1:l[n].o.kind=31
    ·rw[if_pos (.inl c1)] at nx;simp only[amS,Nat.reduceLeDiff,↓reduceIte,bxS,lm,show(n:Int)<(l.length:Int) by omega,hb,e1,c1,eq_self,pe_incN n,pe_incN (cnt (l.take n))];exact LoopPost.next (n+1) (by rw[nx]) ⟨hlt,by omega,rfl⟩ (by omega)
    ·by_cases c2:l[n].o.kind=32
     ·rw[if_pos (.inr c2)] at nx;simp only[amS,Nat.reduceLeDiff,↓reduceIte,bxS,lm,show(n:Int)<(l.length:Int) by omega,hb,e1,c2,Int.reduceEq,eq_self,pe_incN n,pe_incN (cnt (l.take n))];exact LoopPost.next (n+1) (by rw[nx]) ⟨hlt,by omega,rfl⟩ (by omega)
     ·rw[if_neg (λhc=>hc.elim c1 c2)] at nx;simp only[amS,Nat.reduceLeDiff,↓reduceIte,bxS,lm,show(n:Int)<(l.length:Int) by omega,hb,e1,c1,c2,pe_incN n];exact LoopPost.next (n+1) (by rw[nx];rfl) ⟨hlt,by omega,rfl⟩ (by omega)
   ·by_cases c8:(cnt (l.take n):Int)≤8
    ·simp only[amS,Nat.reduceLeDiff,↓reduceIte,bxS,lm,show(n:Int)<(l.length:Int) by omega,hb,c8,r21];exact⟨_,rfl,b1,rfl,λhb2=>by have:=(hb1 hb2).1;omega⟩
    ·simp only[amS,Nat.reduceLeDiff,↓reduceIte,bxS,lm,show(n:Int)<(l.length:Int) by omega,hb,c8];exact⟨_,rfl,false,by simp,nofun⟩
  ·rw[List.take_of_length_le hge];by_cases c8:(cnt l:Int)≤8
   ·simp only[amS,Nat.reduceLeDiff,↓reduceIte,bxS,lm,show¬(n:Int)<(l.length:Int) by omega,c8,r21];exact⟨_,rfl,b1,rfl,λhb2=>⟨(hb1 hb2).1,by omega,(hb1 hb2).2⟩⟩
   ·simp only[amS,Nat.reduceLeDiff,↓reduceIte,bxS,lm,show¬(n:Int)<(l.length:Int) by omega,c8];exact⟨_,rfl,false,by simp,nofun⟩
 obtain⟨_,_,r1,b,rfl,rfl,hb⟩:=hev.ret;exact⟨b,r1,hb⟩
end
end Go.Am
