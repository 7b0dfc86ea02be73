/- Parts of the proof. No law is claimed here. -/
import Derived.Test.YtbicpeplenomhaaGreatDoorR25
import Derived.Test.YtbicpeplenomhaaGreatDoorR8
set_option linter.unusedVariables false
set_option linter.unusedSimpArgs false
section
namespace Go.Am
open Go
set_option maxRecDepth 100000
abbrev tAttr:Ty:= .st [.int .i64,.str,.str]
abbrev tOp:Ty:= .st [.int .i64,.str,.sl tAttr,.int .i64,.int .i64,.bool,.str,.int .i32,.int .i64]
abbrev tCtx:Ty:= .st [.int .i64,.str,.sl tAttr,.bool,.bool]
abbrev tStart:Ty:= .st [.bool,tCtx]
theorem rows_mapT {α:Type} {P:List AVal→Prop} {f:α→List AVal} {Q:α→Prop} (h:∀r,P r→∃a,r=f a∧Q a):∀{rows:List (List AVal)},(∀r∈rows,P r)→∃l:List α,rows=l.map f∧∀a∈l,Q a
 |[],_=>⟨[],rfl,by simp⟩
 |r::rows,hr=>by obtain⟨a,rfl,hq⟩:=h r (hr r (by simp));obtain⟨l,rfl,hl⟩:=rows_mapT h (rows:=rows) λr h=>hr r (by simp[h]);exact⟨a::l,rfl,by simpa[hq] using hl⟩
theorem has_sl {α:Type} {e:Ty} {f:α→List AVal} {Q:α→Prop} (h:∀r,Has e r→∃a,r=f a∧Q a) {v:AVal} (hv:Has (.sl e) [v]):∃l:List α,IsSl (Ty.size e) (l.map f) v∧l.length≤maxLen∧∀a∈l,Q a:=by
 unfold Has at hv;rcases hv with e1|⟨rows,e1,hl,hr⟩
 ·cases e1
  exact⟨[],.nil,by simp,by simp⟩
 ·cases e1
  obtain⟨l,rfl,hq⟩:=rows_mapT h hr;exact⟨l,.mk,by simpa using hl,hq⟩
theorem has_int {r:List AVal} {k:IntKind} (h:Has (.int k) r):∃n,r=[.int k n]∧(Lit.int k n).wf=true:=h
theorem has_str {r:List AVal} (h:Has .str r):∃s:Bytes,r=[.str s]:=let⟨n,e,_⟩:=h;⟨n,e⟩
theorem has_bool {r:List AVal} (h:Has .bool r):∃b,r=[.bool b]:=h
theorem hasL_cons {t:Ty} {ts:List Ty} {l:List AVal} (h:HasL (t::ts) l):∃a b,l=a++b∧Has t a∧HasL ts b:=h
theorem hasL_nil {l:List AVal} (h:HasL [] l):l=[]:=h
theorem hasSl_one {e:Ty} {r:List AVal} (h:Has (.sl e) r):∃v,r=[v]∧Has (.sl e) [v]:=by have h':=h;unfold Has at h';rcases h' with rfl|⟨rows,rfl,_⟩<;>exact⟨_,rfl,h⟩
theorem has_attr (r:List AVal) (h:Has tAttr r):∃a:Attr,r=a.row∧True:=by obtain⟨x1,y1,rfl,h1,h⟩:=hasL_cons h;obtain⟨x2,y2,rfl,h2,h⟩:=hasL_cons h;obtain⟨x3,y3,rfl,h3,h⟩:=hasL_cons h;obtain rfl:=hasL_nil h;obtain⟨n,rfl,_⟩:=has_int h1;obtain⟨s,rfl⟩:=has_str h2;obtain⟨t,rfl⟩:=has_str h3;exact⟨⟨n,s,t⟩,rfl,trivial⟩
theorem has_op (r:List AVal) (h:Has tOp r):∃a:QO,r=a.row∧(-2147483648≤a.q.r∧a.q.r≤2147483647):=by obtain⟨x1,y1,rfl,h1,h⟩:=hasL_cons h;obtain⟨x2,y2,rfl,h2,h⟩:=hasL_cons h;obtain⟨x3,y3,rfl,h3,h⟩:=hasL_cons h;obtain⟨x4,y4,rfl,h4,h⟩:=hasL_cons h;obtain⟨x5,y5,rfl,h5,h⟩:=hasL_cons h;obtain⟨x6,y6,rfl,h6,h⟩:=hasL_cons h;obtain⟨x7,y7,rfl,h7,h⟩:=hasL_cons h;obtain⟨x8,y8,rfl,h8,h⟩:=hasL_cons h;obtain⟨x9,y9,rfl,h9,h⟩:=hasL_cons h;obtain rfl:=hasL_nil h;obtain⟨n1,rfl,_⟩:=has_int h1;obtain⟨s2,rfl⟩:=has_str h2;obtain⟨v,rfl,h3⟩:=hasSl_one h3;obtain⟨l,h3,_,_⟩:=has_sl has_attr h3;obtain⟨n4,rfl,_⟩:=has_int h4;obtain⟨n5,rfl,_⟩:=has_int h5;obtain⟨b6,rfl⟩:=has_bool h6;obtain⟨s7,rfl⟩:=has_str h7;obtain⟨n8,rfl,w8⟩:=has_int h8;obtain⟨n9,rfl,_⟩:=has_int h9;refine⟨⟨⟨n1,s2,l,n4,n5,b6,s7,n8,n9⟩,v,h3⟩,rfl,?_⟩;have m1:IntKind.i32.min= -2147483648:=rfl;have m2:IntKind.i32.max=2147483647:=rfl;simp[Lit.wf,m1,m2] at w8;exact w8
theorem hasV_start {v:AVal} (h:HasV tStart v):∃(s:BStart) (av:AVal),v= .agg (srow s av)∧IsAttrs s.attrs av:=by obtain⟨r,rfl,h⟩:=h;obtain⟨x1,y1,rfl,h1,h⟩:=hasL_cons h;obtain⟨x2,y2,rfl,h2,h⟩:=hasL_cons h;obtain rfl:=hasL_nil h;obtain⟨b1,rfl⟩:=has_bool h1;obtain⟨x3,y3,rfl,h3,h⟩:=hasL_cons h2;obtain⟨x4,y4,rfl,h4,h⟩:=hasL_cons h;obtain⟨x5,y5,rfl,h5,h⟩:=hasL_cons h;obtain⟨x6,y6,rfl,h6,h⟩:=hasL_cons h;obtain⟨x7,y7,rfl,h7,h⟩:=hasL_cons h;obtain rfl:=hasL_nil h;obtain⟨n3,rfl,_⟩:=has_int h3;obtain⟨s4,rfl⟩:=has_str h4;obtain⟨v,rfl,h5⟩:=hasSl_one h5;obtain⟨l,h5,_,_⟩:=has_sl has_attr h5;obtain⟨b6,rfl⟩:=has_bool h6;obtain⟨b7,rfl⟩:=has_bool h7;exact⟨⟨b1,n3,s4,l,b6,b7⟩,v,rfl,h5⟩
theorem hasV_ops {v:AVal} (h:HasV (.sl tOp) v):∃l:List QO,IsOps l v∧∀x∈l,-2147483648≤x.q.r∧x.q.r≤2147483647:=by have h:Has (.sl tOp) [v]:=h;obtain⟨l,h1,_,h2⟩:=has_sl has_op h;exact⟨l,h1,h2⟩
def attrsOkB (l:List Attr):Prop:=l.length≤20∧∀x∈l,x.name.length≤400∧x.value.length≤400
instance (l:List Attr):Decidable (attrsOkB l):=by unfold attrsOkB;infer_instance
theorem attrsOkB.small {l:List Attr} (h:attrsOkB l):SmallA l:=⟨by have:=h.1;omega,λa ha=>by have:=h.2 a ha;omega⟩
section
variable {h:AHeap}
theorem f9 {v:AVal} {l:List Attr} (hv:IsAttrs l v) (h:AHeap):Ret cx 11 [v] h (.bool (decide (attrsOkB l))) h:=by
 have hv':IsSl 3 (l.map Attr.row) v:=hv;have lm:=IsSl.lenM hv;rw[ret_iff,t11_eq,t11];refine W_loop_st (λn:Nat=>[ff,.int .i64 (n:Int)]) (λn h1=>n≤l.length∧n≤21∧(∀x∈l.take n,x.name.length≤400∧x.value.length≤400)∧h1=h) (λn=>l.length-n) 0 rfl ⟨Nat.zero_le _,Nat.zero_le _,by simp,rfl⟩ ?_;rintro n h1 ⟨hn,hb,ha,rfl⟩;rcases Nat.lt_or_ge n l.length with hlt|hge
 ·have e1:=IsSl.eaddrM (k:= .i64) hv hlt;rw[Attr.row] at e1;have hno:¬(l[n].name.length≤400∧l[n].value.length≤400)→¬attrsOkB l:=λh1 h2=>h1 (h2.2 _ (List.getElem_mem hlt));by_cases hb2:n≤20
  ·by_cases c1:(400:Int)<(l[n].name.length:Int)
   ·have e:decide (attrsOkB l)=false:=decide_eq_false (hno (by omega));rw[e];simp only[amS,bxS,lm,show(n:Int)<(l.length:Int) by omega,show(n:Int)≤20 by omega,e1,c1]
   ·by_cases c2:(400:Int)<(l[n].value.length:Int)
    ·have e:decide (attrsOkB l)=false:=decide_eq_false (hno (by omega));rw[e];simp only[amS,bxS,lm,show(n:Int)<(l.length:Int) by omega,show(n:Int)≤20 by omega,e1,c1,c2]
    ·simp only[amS,bxS,lm,show(n:Int)<(l.length:Int) by omega,show(n:Int)≤20 by omega,e1,c1,c2,pe_inc (show n<9223372036854775807 by omega)];refine LoopPost.next (n+1) rfl ⟨hlt,by omega,λx hx=>?_,rfl⟩ (by omega);rw[List.take_succ_eq_append_getElem hlt,List.mem_append,List.mem_singleton] at hx;rcases hx with hx|rfl
     ·exact ha x hx
     ·exact⟨by omega,by omega⟩
  ·have e:decide (attrsOkB l)=false:=decide_eq_false λh=>by have:=h.1;omega
   rw[e];simp only[amS,bxS,lm,show(n:Int)<(l.length:Int) by omega,show¬(n:Int)≤20 by omega,show¬(l.length:Int)≤20 by omega,decide_false]
 ·rw[List.take_of_length_le hge] at ha;have e2:decide (attrsOkB l)=decide ((l.length:Int)≤20):=by rw[decide_eq_decide];exact⟨λh=>by have:=h.1;omega,λh=>⟨by omega,ha⟩⟩
  rw[e2];simp only[amS,bxS,lm,show¬(n:Int)<(l.length:Int) by omega]
def ctxOk (s:BStart):Prop:=s.name.length≤60∧attrsOkB s.attrs
instance (s:BStart):Decidable (ctxOk s):=by unfold ctxOk;infer_instance
theorem f5 (s:BStart) {av:AVal} (hv:IsAttrs s.attrs av) (h:AHeap):Ret cx 20 [.agg [.int .i64 s.space,.str s.name,av,.bool s.quirks,.bool s.form]] h (.bool (decide (ctxOk s))) h:=by
 have r1:=f9 hv h;have hav:av.cells=[av]:=IsSl.cells hv;rw[ret_iff,t20_eq,t20];by_cases c1:(s.name.length:Int)≤60
 ·have e:decide (ctxOk s)=decide (attrsOkB s.attrs):=by rw[decide_eq_decide];exact⟨λh=>h.2,λh=>⟨by omega,h⟩⟩
  rw[e];simp only[amS,bxS,c1,r1.call]
 ·have e:decide (ctxOk s)=false:=decide_eq_false λh=>by have:=h.1;omega
  rw[e];simp only[amS,bxS,c1]
def opOk (q:BOp):Prop:=q.name.length≤60∧q.s.length≤200∧attrsOkB q.attrs
instance (q:BOp):Decidable (opOk q):=by unfold opOk;infer_instance
theorem opOk.ok {q:BOp} (h:opOk q) (hr: -2147483648≤q.r∧q.r≤2147483647):QOk q:=⟨by have:=h.1;omega,h.2.2.small,by have:=h.2.1;omega,hr⟩
def opsOk (l:List QO) (m:Nat):Prop:=l.length≤m∧∀x∈l,opOk x.q
instance (l:List QO) (m:Nat):Decidable (opsOk l m):=by unfold opsOk;infer_instance
theorem f4 {v:AVal} {l:List QO} (hv:IsOps l v) {m:Nat} (hm:m≤1000) (h:AHeap):Ret cx 19 [v,.int .i64 (m:Int)] h (.bool (decide (opsOk l m))) h:=by
 have lm:=IsSl.lenM hv;rw[ret_iff,t19_eq,t19];refine W_loop_st (λn:Nat=>[ff,.int .i64 (n:Int)]) (λn h1=>n≤l.length∧n≤m+1∧(∀x∈l.take n,opOk x.q)∧h1=h) (λn=>l.length-n) 0 rfl ⟨Nat.zero_le _,Nat.zero_le _,by simp,rfl⟩ ?_;rintro n h1 ⟨hn,hb,ha,rfl⟩;rcases Nat.lt_or_ge n l.length with hlt|hge
 ·have e1:=IsSl.eaddrM (k:= .i64) hv hlt;have r9:=f9 l[n].ok h1;have hno:¬opOk l[n].q→¬opsOk l m:=λh1 h2=>h1 (h2.2 _ (List.getElem_mem hlt));rw[QO.row,qrow] at e1;by_cases hb2:n≤m
  ·by_cases c1:(60:Int)<(l[n].q.name.length:Int)
   ·have e:decide (opsOk l m)=false:=decide_eq_false (hno λh=>by have:=h.1;omega);rw[e];simp only[amS,bxS,lm,show(n:Int)<(l.length:Int) by omega,show(n:Int)≤(m:Int) by omega,e1,c1]
   ·by_cases c2:(200:Int)<(l[n].q.s.length:Int)
    ·have e:decide (opsOk l m)=false:=decide_eq_false (hno λh=>by have:=h.2.1;omega);rw[e];simp only[amS,bxS,lm,show(n:Int)<(l.length:Int) by omega,show(n:Int)≤(m:Int) by omega,e1,c1,c2]
    ·by_cases c3:attrsOkB l[n].q.attrs
     ·rw[decide_eq_true c3] at r9;simp only[amS,bxS,lm,show(n:Int)<(l.length:Int) by omega,show(n:Int)≤(m:Int) by omega,e1,c1,c2,r9.call,pe_inc (show n<9223372036854775807 by omega)];refine LoopPost.next (n+1) rfl ⟨hlt,by omega,λx hx=>?_,rfl⟩ (by omega);rw[List.take_succ_eq_append_getElem hlt,List.mem_append,List.mem_singleton] at hx;rcases hx with hx|rfl
      ·exact ha x hx
      ·exact⟨by omega,by omega,c3⟩
     ·have e:decide (opsOk l m)=false:=decide_eq_false (hno λh=>c3 h.2.2);rw[decide_eq_false c3] at r9;rw[e];simp only[amS,bxS,lm,show(n:Int)<(l.length:Int) by omega,show(n:Int)≤(m:Int) by omega,e1,c1,c2,r9.call]
  ·have e:decide (opsOk l m)=false:=decide_eq_false λh=>by have:=h.1;omega
   rw[e];simp only[amS,bxS,lm,show(n:Int)<(l.length:Int) by omega,show¬(n:Int)≤(m:Int) by omega,show¬(l.length:Int)≤(m:Int) by omega,decide_false]
 ·rw[List.take_of_length_le hge] at ha;have e2:decide (opsOk l m)=decide ((l.length:Int)≤(m:Int)):=by rw[decide_eq_decide];exact⟨λh=>by have:=h.1;omega,λh=>⟨by omega,ha⟩⟩
  rw[e2];simp only[amS,bxS,lm,show¬(n:Int)<(l.length:Int) by omega]
end
theorem known_iff {Q:Post} {h:AHeap} {k:AVal→IT}:W cx (.pcall 12 [] k) Q h↔W cx (k (.bool true)) Q h:=PRet.pcall run_known rfl rfl
end Go.Am
end
section
namespace Go.Am
open Go
set_option maxRecDepth 100000
section
variable {h h':AHeap} {bi a lo:Nat} {o c t v:AVal} {G G' F F':Nat→Prop} {b:BS} {q:BOp} {av:AVal} {j m:Nat}
theorem f401 (s:BStart) (hv:IsAttrs s.attrs av) (hl:SmallA s.attrs) {l:List QO} (ho:IsOps l v) (hb:l.length≤60) (hq:∀x∈l,QOk x.q) (h:AHeap):
  ∃h' bi F,Ret cx 21 [.agg (srow s av),v] h (.ptr (some (bi,0))) h'∧PB h' bi (playB s.b l) F:=by
 obtain⟨h1,bi,F,r1,w0,_⟩:=f10e s hv hl h;have hev:Ev cx 21 [.agg (srow s av),v] h λr h'=>r= .ptr (some (bi,0))∧∃F,PB h' bi (playB s.b l) F:=by
  unfold Ev;have hav:av.cells=[av]:=IsSl.cells hv;have lm:=IsSl.lenM ho;rw[t21_eq,t21];rw[srow] at r1⊢;simp only[amS,bxS,r1.call];refine W_loop_st (λn:Nat=>[.int .i64 (n:Int)]) (λn h2=>n≤l.length∧∃F,PB h2 bi (playB s.b (l.take n)) F) (λn=>l.length-n) 0 rfl ⟨Nat.zero_le _,F,w0⟩ ?_;rintro n h3 ⟨hn1,F3,w3⟩;rcases Nat.lt_or_ge n l.length with hlt|hge
  ·have e1:=IsSl.eaddrM (k:= .i64) ho hlt;have fine:Fin (playB s.b (l.take n)) (39+1):=play_fin (j:=40) (l:=l.take n) (s.fin.le (by rw[List.length_take];omega)) λx hx=>hq x (List.mem_of_mem_take hx);obtain⟨h4,F4,r3,w4,_⟩:=f20e w3 fine (hq _ (List.getElem_mem hlt)) l[n].ok;have hr:qrow l[n].q l[n].v=l[n].row:=rfl;rw[hr] at r3;simp only[amS,bxS,lm,show(n:Int)<(l.length:Int) by omega,e1,QO.len_row,QO.take_row,Nat.le_refl,r3.call,pe_inc (show n<9223372036854775807 by omega)];exact LoopPost.next (n+1) rfl ⟨hlt,F4,by rw[List.take_succ_eq_append_getElem hlt,playB_snoc];exact w4⟩ (by omega)
  ·rw[List.take_of_length_le hge] at w3;simp only[amS,bxS,lm,show¬(n:Int)<(l.length:Int) by omega];exact⟨_,rfl,rfl,F3,w3⟩
 obtain⟨r,h',hr,rfl,F',w'⟩:=hev.ret;exact⟨h',bi,F',hr,w'⟩
def qK (k:Int) (nm:Bytes) (l:List Attr) (s:Bytes) (r:Int) (x:Int):BOp:=⟨k,nm,l,0,x,false,s,r,0⟩
theorem Fin.op {b':BS} (f:Fin b (j+1)) (q:BOp) (hq:QOk q) (e:(doB b q).1=b'):Fin b' j:=e▸f.do hq
theorem small0:SmallA []:=⟨by decide,λ_ h=>by cases h⟩
theorem qK_ok {k x r:Int} {nm s:Bytes} (h1:nm.length≤1000) (h2:s.length≤1000) (h3: -2147483648≤r∧r≤2147483647) {l:List Attr} (h4:SmallA l):QOk (qK k nm l s r x):=⟨h1,h4,h2,h3⟩
theorem Fin.endT (f:Fin b (j+1)):Fin b.endTemplate j:=f.op (qK 13 [] [] [] 0 0) (qK_ok (by decide) (by decide) (by decide) small0) (by unfold doB;rfl)
theorem Fin.anyEnd (f:Fin b (j+1)) {nm:Bytes} (hn:nm.length≤60):Fin (b.anyEnd nm) j:=f.op (qK 9 nm [] [] 0 0) (qK_ok (by omega) (by decide) (by decide) small0) (by unfold doB;rfl)
theorem Fin.agency (f:Fin b (j+1)) {nm:Bytes} (hn:nm.length≤60):Fin (b.agency nm) j:=f.op (qK 10 nm [] [] 0 0) (qK_ok (by omega) (by decide) (by decide) small0) (by unfold doB;rfl)
theorem Fin.rebuild (f:Fin b (j+1)):Fin b.rebuild j:=f.op (qK 8 [] [] [] 0 0) (qK_ok (by decide) (by decide) (by decide) small0) (by unfold doB;rfl)
theorem Fin.char (f:Fin b (j+1)) {r:Int} (hr: -2147483648≤r∧r≤2147483647):Fin (b.char r) j:=f.op (qK 4 [] [] [] r 0) (qK_ok (by decide) (by decide) hr small0) (by unfold doB;rfl)
theorem Fin.comment (f:Fin b (j+1)) {s:Bytes} (hs:s.length≤1000) {x:Int}:Fin (b.comment s x) j:=f.op (qK 5 [] [] s 0 x) (qK_ok (by decide) hs (by decide) small0) (by unfold doB;rfl)
theorem Fin.ins (f:Fin b (j+1)) {nm:Bytes} {l:List Attr} (hn:nm.length≤1000) (hl:SmallA l):Fin (b.insB nm l 1) j:=f.op (qK 1 nm l [] 0 0) (qK_ok hn (by decide) (by decide) hl) (by unfold doB;rfl)
theorem Fin.foster (f:Fin b j) {x:Bool}:Fin {b with foster:=x} j:=⟨f.ok.of_eq rfl rfl rfl rfl,f.sz.rm.eq rfl rfl rfl rfl,f.sz.opn,f.sz.act⟩
theorem BX.own_lt (w:BX h bi a o c t G b) {i:Nat} (hi:own bi G i):i<h.length:=by
 rcases hi with rfl|hi
 ·exact w.lt
 ·exact w.w.lt hi
theorem SnapV.stay {s:SS} (w:SnapV h lo s t o c) (x:Ext h F h' F') (hF:∀i,F i→i<lo):SnapV h' lo s t o c:=w.frame λi h1 h2=>x.old i h2 λhf=>by have:=hF i hf;omega
theorem NodesV.stay {l:List ANode} (w:NodesV h lo v l) (x:Ext h F h' F') (hF:∀i,F i→i<lo):NodesV h' lo v l:=w.frame (λi h1 h2=>x.old i h2 λhf=>by have:=hF i hf;omega) x.len
theorem snap_same (f:Fin b j) {t' o' c':AVal} {lo':Nat} (w:SnapV h lo b.snap t o c) (w':SnapV h lo' b.snap t' o' c'):Ret cx 25 [.agg (srowV b.snap t o c),.agg (srowV b.snap t' o' c')] h tt h:=by have rm:=f.sz.rm;have k1:=rm.tm;have k2:=rm.opn;have k3:=rm.act;exact f22 w w' (show b.tm.length≤1000000000 by omega) (show(b.opn.map Item.node).length≤1000000000 by rw[List.length_map];omega) (show b.act.length≤1000000000 by omega) (λe he=>by have:=(rm.ents e he).2.1;omega)
theorem nodesB (w:BX h bi a o c t G b) (f:Fin b j):∃v u,Ret cx 30 [.ptr (some (a,0))] h v (h++u)∧NodesV (h++u) h.length v b.a.n:=by obtain⟨n,m,ps,wa⟩:=w.w.pa;exact f91w wa f.sz.rm.lim (λx=>f.sz.rm.lim.kids f.ok.ok x) (by have:=f.sz.rm.n;omega)
theorem nodes_same (f:Fin b j) {v':AVal} (n1:NodesR h v b.a.n) (n2:NodesR h v' b.a.n):Ret cx 32 [v,v'] h tt h:=by refine f90 n1 n2 (by have:=f.sz.rm.n;omega) λx hx=>?_;obtain⟨k,hk,rfl⟩:=List.getElem_of_mem hx;have:=(nd_get hk).2;rw[←this];exact⟨by have:=f.sz.rm.at_ ((k:Int)+1);omega,f.sz.rm.lim.kids f.ok.ok _⟩
theorem ints_take {id k:Nat} {l:List Int} (hc:h[id]?=some (.cells (l.map (AVal.int .i64)))) (hk:k≤l.length):IntsAt h (.msl id 0 k 1) (l.take k):=by
 refine⟨by rw[List.length_take,Nat.min_eq_left hk];rfl,λi hi=>⟨.ptr (some (id,i)),?_,?_⟩⟩
 ·rw[List.length_take] at hi;have:=eaddr_msl (id:=id) (z:=1) (n:=k) (k:= .i64) (i:=i) (by omega)
  rwa [Nat.mul_one] at this
 ·rw[List.length_take] at hi;simp only[hload,hc,partOf_none];rw[List.getElem?_map,List.getElem?_eq_getElem (by omega),List.getElem_take];rfl
theorem IntsV.hi {l:List Int} (hv:IntsV h lo v l) {k:Nat} (hk:k≤l.length) (h1:1≤k):∃u,peval (.slc 1 false false true) [v,.int .i64 (k:Int)]=some u∧IntsAt h u (l.take k):=by
 rcases hv with⟨rfl,rfl⟩|⟨id,_,rfl,hc⟩
 ·simp at hk;omega
 ·exact⟨_,msl_hi (by omega) hk,ints_take hc hk⟩
theorem IntsV.len {l:List Int} (hv:IntsV h lo v l):peval (.len false) [v]=some (.int .i64 (l.length:Int)):=hv.ints.len
theorem EntsV.len {l:List FCor} (hv:EntsV h lo v l):peval (.len false) [v]=some (.int .i64 (l.length:Int)):=by obtain⟨fs,e,w⟩:=hv.at_;rw[w.len,←e,List.length_map]
theorem IsInts.len {l:List Int} (hv:IsInts l v):peval (.len false) [v]=some (.int .i64 (l.length:Int)):=IsSl.lenM hv
end
theorem hasV_str {v:AVal} (h:HasV .str v):∃s:Bytes,v= .str s:=by obtain⟨s,e⟩:=has_str (r:=[v]) h;exact⟨s,by simpa using e⟩
section
variable {h:AHeap} {a n:Nat} {m:Option Nat} {ps:List PN} {A:Ar} {x:Int}
theorem f161a {v:AVal} {l:List Int} (hv:IntsAt h v l) (hb:l.length≤1000000000) (x:Int):Ret cx 40 [v,.int .i64 x] h (.int .i64 (idxFrom (λy=>decide (x=y)) 0 l)) h:=by
 rw[ret_iff,t40_eq,t40];refine W_loop_st (λk:Nat=>[I 0,.int .i64 (k:Int)]) (λk h1=>k≤l.length∧idxFrom (λy=>decide (x=y)) 0 l=idxFrom (λy=>decide (x=y)) k (l.drop k)∧h1=h) (λk=>l.length-k) 0 rfl ⟨Nat.zero_le _,rfl,rfl⟩ ?_;rintro k h1 ⟨hk,ha,rfl⟩;rcases Nat.lt_or_ge k l.length with hlt|hge
 ·obtain⟨p,e1,e2⟩:=hv.at_ k hlt;rw[List.drop_eq_getElem_cons hlt,idxFrom] at ha;simp only[amS,bxS,hv.len,show(k:Int)<(l.length:Int) by omega,e1,e2,pe_inc (show k<9223372036854775807 by omega)];refine⟨λh2=>?_,λh2=>?_⟩
  ·rw[ha,if_pos (by simp[h2])]
  ·rw[if_neg (by simpa using λe=>h2 e.symm)] at ha;exact LoopPost.next (k+1) rfl ⟨hlt,ha,rfl⟩ (by omega)
 ·rw[List.drop_of_length_le hge,idxFrom] at ha;simp only[amS,bxS,hv.len,show¬(k:Int)<(l.length:Int) by omega,ha]
theorem f411 (w:PA h a n m ps A) (lm:Lim A) {e:Int} (ok:ArOk A e) (hx:A.has x) (hp:(A.nd x).par≠0):Ret cx 37 [.ptr (some (a,0)),.int .i64 x] h (.int .i64 (idxFrom (λy=>decide (x=y)) 0 (A.nd (A.nd x).par).kids)) h:=by have h1:=(ok.par x hx hp).1;have r1:=f34w (w.kid h1).ints (lm.kids ok _) x;rw[ret_iff,t37_eq,t37];simp only[amS,bxS,(f193w (x:=x) w lm).call,hp,(f94w w lm h1).call,w.f2 h1,r1.call]
end
end Go.Am
end
