/- Parts of the proof. No law is claimed here. -/
import Derived.Test.YtbicpeplenomhaaGreatDoorR19
set_option linter.unusedVariables false
set_option linter.unusedSimpArgs false
section
namespace Go.Am
set_option maxRecDepth 100000
structure Le (A A':Ar):Prop where
 has:∀h,A.has h→A'.has h
 kind:∀h,A.has h→(A'.nd h).kind=(A.nd h).kind
 space:∀h,A.has h→(A'.nd h).space=(A.nd h).space
 name:∀h,A.has h→(A'.nd h).name=(A.nd h).name
section
variable {A A' A'':Ar} {h k e p n b:Int} {x:ANode}
theorem Le.refl:Le A A:=⟨λ_ h=>h,λ_ _=>rfl,λ_ _=>rfl,λ_ _=>rfl⟩
theorem Le.trans (h1:Le A A') (h2:Le A' A''):Le A A'':=⟨λh hh=>h2.has h (h1.has h hh),λh hh=>by rw[h2.kind h (h1.has h hh),h1.kind h hh],λh hh=>by rw[h2.space h (h1.has h hh),h1.space h hh],λh hh=>by rw[h2.name h (h1.has h hh),h1.name h hh]⟩
theorem Le.of_nd (h1:∀h,A.has h→A'.has h) (h2:∀h,A.has h→A'.nd h=A.nd h):Le A A':=⟨h1,λh hh=>by rw[h2 h hh],λh hh=>by rw[h2 h hh],λh hh=>by rw[h2 h hh]⟩
theorem has_ne (hh:A.has h):h≠A.len+1:=λe=>no_new (A:=A) (e▸hh)
theorem nd_add_old (hh:A.has h):(A.add x).nd h=A.nd h:=by rw[nd_add,if_neg (has_ne hh)]
theorem le_add:Le A (A.add x):= .of_nd (λh hh=>has_add.2 (.inl hh)) λh hh=>nd_add_old hh
theorem le_set (h1:x.kind=(A.nd h).kind) (h2:x.space=(A.nd h).space) (h3:x.name=(A.nd h).name):Le A (A.set h x):=by
 refine⟨λk hk=>has_set.2 hk,?_,?_,?_⟩<;>intro k hk<;>rw[nd_set]<;>split
 ·rename_i e;rw[e.1,h1]
 ·rfl
 ·rename_i e;rw[e.1,h2]
 ·rfl
 ·rename_i e;rw[e.1,h3]
 ·rfl
theorem le_setK {l:List Int}:Le A (A.set h {A.nd h with kids:=l}):=le_set rfl rfl rfl
theorem le_setP:Le A (A.set h {A.nd h with par:=p}):=le_set rfl rfl rfl
theorem le_cut:Le A (A.cut n):=by
 unfold Ar.cut;simp only;split
 ·exact .refl
 ·exact Le.trans le_setK le_setP
theorem le_ins:Le A (A.ins p n b):=Le.trans le_setK le_setP
theorem le_tput:Le A (A.tput p n b):=by unfold Ar.tput;split;exact le_cut.trans le_ins;exact .refl
theorem le_bput:Le A (A.bput n p b):=by unfold Ar.bput;split;exact .refl;exact le_tput
theorem ok_bput (ok:ArOk A e):ArOk (A.bput n p b) e:=by unfold Ar.bput;split;exact ok;exact ok_tput ok
theorem len_tput:(A.tput p n b).len=A.len:=by unfold Ar.len Ar.tput;split;rw[nlen_ins,nlen_cut];rfl
theorem len_bput:(A.bput n p b).len=A.len:=by unfold Ar.bput;split;rfl;exact len_tput
theorem elem_old {d sp:Int} {nm:Bytes} {l:List Attr} (hh:A.has h):(A.elem d sp nm l).has h∧(A.elem d sp nm l).nd h=A.nd h:=by
 have hne:=has_ne hh;unfold Ar.elem;simp only
 split
 ·have h1:(A.add {kind:=4,doc:=d,space:=sp,name:=nm,attrs:=once l}).has h:=has_add.2 (.inl hh);refine⟨has_set.2 (has_add.2 (.inl (has_inert h1))),?_⟩;rw[nd_set,if_neg (λe=>hne e.1),nd_add_old (has_inert h1),nd_inert (.inl (has_ne h1)),nd_add_old hh]
 ·exact⟨has_add.2 (.inl hh),nd_add_old hh⟩
theorem elem_new {d sp:Int} {nm:Bytes} {l:List Attr}:(A.elem d sp nm l).has (A.len+1)∧((A.elem d sp nm l).nd (A.len+1)).kind=4∧((A.elem d sp nm l).nd (A.len+1)).space=sp∧((A.elem d sp nm l).nd (A.len+1)).name=nm∧((A.elem d sp nm l).nd (A.len+1)).kids=[]∧((A.elem d sp nm l).nd (A.len+1)).par=0∧((A.elem d sp nm l).nd (A.len+1)).doc=d∧((A.elem d sp nm l).nd (A.len+1)).attrs=once l:=by
 unfold Ar.elem;simp only
 split
 ·have h1:(A.add {kind:=4,doc:=d,space:=sp,name:=nm,attrs:=once l}).has (A.len+1):=has_add.2 (.inr rfl);have h2:=has_add (x:={kind:=2,host:=A.len+1,doc:=(A.add {kind:=4,doc:=d,space:=sp,name:=nm,attrs:=once l}).inertH d}).2 (.inl (has_inert (h:=d) h1));rw[has_set,nd_set,if_pos ⟨rfl,h2⟩];exact⟨h2,rfl,rfl,rfl,rfl,rfl,rfl,rfl⟩
 ·rw[nd_add,if_pos rfl];exact⟨has_add.2 (.inr rfl),rfl,rfl,rfl,rfl,rfl,rfl,rfl⟩
theorem le_elem {d sp:Int} {nm:Bytes} {l:List Attr}:Le A (A.elem d sp nm l):= .of_nd (λ_ h=>(elem_old h).1) λ_ h=>(elem_old h).2
theorem ok_setAttrs {l:List Attr} (ok:ArOk A e) (hh:A.has h) (hk:(A.nd h).kind=4) (hl:∀a∈l,0≤a.space∧a.space≤7):ArOk (A.setAttrs h l) e:=by have hx:=ok.nok h hh;refine ok_set ok hh ⟨hx.k,hx.kids,λh=>absurd hk h,hx.nm,hx.dt,hx.data,hx.quirks,hx.sp,λa ha=>hl a (once_mem ha),once_once l,hx.contT,hx.hostF,hx.root,hx.nod⟩ rfl rfl rfl ⟨(ok.doc h hh).1,(ok.doc h hh).2,ok.docD h hh⟩ rfl rfl λhT=>hT
theorem ok_setData {s:Bytes} (ok:ArOk A e) (hh:A.has h) (hk:(A.nd h).kind=5∨(A.nd h).kind=6):ArOk (A.setData h s) e:=by have hx:=ok.nok h hh;refine ok_set ok hh ⟨hx.k,hx.kids,hx.elem,hx.nm,hx.dt,λh5 h6=>by have:(A.nd h).kind≠5:=h5;have:(A.nd h).kind≠6:=h6;omega,hx.quirks,hx.sp,hx.asp,hx.once,hx.contT,hx.hostF,hx.root,hx.nod⟩ rfl rfl rfl ⟨(ok.doc h hh).1,(ok.doc h hh).2,ok.docD h hh⟩ rfl rfl λhT=>hT
theorem ok_addC {kd d:Int} {s:Bytes} (ok:ArOk A e) (he:e≠A.len+1) (hd:A.has d∧(A.nd d).kind=1) (hk:kd=5∨kd=6):ArOk (A.add {kind:=kd,doc:=d,data:=s}) e:=by
 refine ok_add ok ?_ (.inr ⟨by simp;omega,hd⟩) rfl rfl rfl rfl (λh=>?_)
 ·constructor<;>simp[once,onceF]<;>omega
 ·have:=h.1;simp at this;omega
theorem le_setData {s:Bytes}:Le A (A.setData h s):=le_set rfl rfl rfl
theorem le_setAttrs {l:List Attr}:Le A (A.setAttrs h l):=le_set rfl rfl rfl
theorem adj_sp {sp:Int} {a:Attr}:0≤(adjAttr sp a).space∧(adjAttr sp a).space≤7:=by
 unfold adjAttr;split
 ·split
  ·rename_i s m he;have:∀x∈fT,0≤x.2.1∧x.2.1≤7:=by decide
   unfold foreignOf at he
   cases hf:fT.find? λx=>decide (adjName sp a.name=x.1) with
   |none=>rw[hf] at he;cases he
   |some y=>rw[hf] at he;have:=this y (List.mem_of_find?_eq_some hf);simp at he;rw[he] at this;exact this
  ·exact⟨Int.le_refl 0,by simp⟩
 ·exact⟨Int.le_refl 0,by simp⟩
end
structure BOk (b:BS):Prop where
 ok:ArOk b.a 0
 doc:b.a.has b.doc∧(b.a.nd b.doc).kind=1
 op:∀i∈b.opn,b.a.has i.node∧(b.a.nd i.node).kind=4∧(b.a.nd i.node).space=i.space∧(b.a.nd i.node).name=i.name
 opN:(b.opn.map Item.node).Nodup
 ac:∀e∈b.act,e.node=0∨(b.a.has e.node∧(b.a.nd e.node).kind=4)
 acN:((b.act.map FCor.node).filter λn=>decide (n≠0)).Nodup
section
variable {b:BS} {t:Int}
theorem opOk_le {A A':Ar} {l:List Item} (hl:Le A A') (h:∀i∈l,A.has i.node∧(A.nd i.node).kind=4∧(A.nd i.node).space=i.space∧(A.nd i.node).name=i.name):∀i∈l,A'.has i.node∧(A'.nd i.node).kind=4∧(A'.nd i.node).space=i.space∧(A'.nd i.node).name=i.name:=by intro i hi;have:=h i hi;rw[hl.kind _ this.1,hl.space _ this.1,hl.name _ this.1];exact⟨hl.has _ this.1,this.2⟩
theorem acOk_le {A A':Ar} {l:List FCor} (hl:Le A A') (h:∀e∈l,e.node=0∨(A.has e.node∧(A.nd e.node).kind=4)):∀e∈l,e.node=0∨(A'.has e.node∧(A'.nd e.node).kind=4):=by
 intro e he;rcases h e he with h|h
 ·exact .inl h
 ·rw[hl.kind _ h.1];exact .inr ⟨hl.has _ h.1,h.2⟩
theorem BOk.setA (o:BOk b) {A:Ar} (ok:ArOk A 0) (hl:Le b.a A):BOk {b with a:=A}:=
 ⟨ok,by rw[hl.kind _ o.doc.1];exact⟨hl.has _ o.doc.1,o.doc.2⟩,opOk_le hl o.op,o.opN,acOk_le hl o.ac,o.acN⟩
theorem BOk.setO (o:BOk b) {l:List Item} (h1:∀i∈l,i∈b.opn) (h2:(l.map Item.node).Nodup):BOk {b with opn:=l}:=
 ⟨o.ok,o.doc,λi hi=>o.op i (h1 i hi),h2,o.ac,o.acN⟩
theorem BOk.subO (o:BOk b) {l:List Item} (h1:List.Sublist l b.opn):BOk {b with opn:=l}:=o.setO (λ_ hi=>h1.subset hi) (o.opN.sublist (h1.map _))
theorem BOk.subC (o:BOk b) {l:List FCor} (h1:List.Sublist l b.act):BOk {b with act:=l}:=
 ⟨o.ok,o.doc,o.op,o.opN,λe he=>o.ac e (h1.subset he),o.acN.sublist ((h1.map _).filter _)⟩
theorem pops_sub {p q:Item→Bool} {l:List Item}:List.Sublist (pops p q l) l:=by
 have key:∀r:List Item,List.Sublist (popsR p q r) r:=by
  intro r
  induction r with
  |nil=>exact List.Sublist.refl _
  |cons x r ih=>
   cases r with
   |nil=>exact List.Sublist.refl _
   |cons y r=>
    rw[popsR];split
    ·exact List.Sublist.refl _
    ·split
     ·exact List.sublist_cons_self _ _
     ·exact ih.trans (List.sublist_cons_self _ _)
 have:=(key l.reverse).reverse
 rwa [List.reverse_reverse] at this
theorem popNode_sub {n:Int} {l:List Item}:List.Sublist (popNode n l) l:=by unfold popNode;split;exact List.Sublist.refl _;exact pops_sub
theorem dropAt_sub {α:Type} {l:List α} {k:Nat}:List.Sublist (dropAt l k) l:=by
 unfold dropAt
 conv=>rhs;rw[←List.take_append_drop k l]
 refine List.Sublist.append (List.Sublist.refl _) ?_;rw[←List.drop_drop];exact List.drop_sublist _ _
theorem removed_sub {n:Int} {l:List Item}:List.Sublist (removed n l) l:=by unfold removed;split;exact List.Sublist.refl _;exact dropAt_sub
theorem itemAt_mem {l:List Item} {i:Int} (h0:0≤i) (h1:i<l.length):itemAt l i∈l:=by unfold itemAt;rw[if_pos h0,List.getD_eq_getElem?_getD,List.getElem?_eq_getElem (by omega)];exact List.getElem_mem _
theorem lastIdx_lt {α:Type} {q:α→Bool} {l:List α}:lastIdx q l<l.length∧-1≤lastIdx q l:=by rcases lastIdx_spec (q:=q) (l:=l) with⟨h1,_⟩|⟨n,hn,h1,_⟩<;>rw[h1]<;>omega
theorem topOf_mem {l:List Item} (h:l≠[]):topOf l∈l:=by have:0<l.length:=List.length_pos_iff.2 h;exact itemAt_mem (by omega) (by omega)
theorem fost_ok (o:BOk b) (hn:b.opn≠[]):b.a.has b.fost.1∧(b.fost.2≠0→b.a.has b.fost.2∧(b.a.nd b.fost.2).par=b.fost.1):=by
 have hl:0<b.opn.length:=List.length_pos_iff.2 hn;have h1:=lastIdx_lt (q:=isOne [wTemplate]) (l:=b.opn);have h2:=lastIdx_lt (q:=isOne [wTable]) (l:=b.opn);unfold BS.fost;simp only
 split
 ·exact⟨(o.op _ (itemAt_mem (by omega) (by omega))).1,λh=>absurd rfl h⟩
 ·split
  ·exact⟨(o.op _ (itemAt_mem (by omega) (by omega))).1,λh=>absurd rfl h⟩
  ·have h3:=o.op _ (itemAt_mem (l:=b.opn) (i:=lastIdx (isOne [wTable]) b.opn) (by omega) (by omega));split
   ·rename_i hp;exact⟨(o.ok.par _ h3.1 hp).1,λ_=>⟨h3.1,rfl⟩⟩
   ·exact⟨(o.op _ (itemAt_mem (by omega) (by omega))).1,λh=>absurd rfl h⟩
theorem place_ok (o:BOk b) (ht:t=0∨(b.a.has t∧b.opn≠[])):b.a.has (b.place t).1∧((b.place t).2≠0→b.a.has (b.place t).2∧(b.a.nd (b.place t).2).par=(b.place t).1):=by
 unfold BS.place;simp only
 split
 ·exact⟨o.doc.1,λh=>absurd rfl h⟩
 ·rename_i h0;have hn:b.opn≠[]:=by
   rcases ht with h|h
   ·intro h2;exact h0 ⟨h,h2⟩
   ·exact h.2
  have h1:b.a.has (if t=0 then(topOf b.opn).node else t):=by
   split
   ·exact(o.op _ (topOf_mem hn)).1
   ·rename_i h2;exact(ht.resolve_left h2).1
  generalize(if t=0 then(topOf b.opn).node else t)=t' at h1;have h2:b.a.has (if b.foster=true∧wds fWords b.a t' then b.fost else(t',0)).1∧((if b.foster=true∧wds fWords b.a t' then b.fost else(t',0)).2≠0→b.a.has (if b.foster=true∧wds fWords b.a t' then b.fost else(t',0)).2∧(b.a.nd (if b.foster=true∧wds fWords b.a t' then b.fost else(t',0)).2).par=(if b.foster=true∧wds fWords b.a t' then b.fost else(t',0)).1):=by
   split
   ·exact fost_ok o hn
   ·exact⟨h1,λh=>absurd rfl h⟩
  generalize(if b.foster=true∧wds fWords b.a t' then b.fost else(t',0))=pb at h2;split
  ·rename_i hc;exact⟨(o.ok.cont _ h2.1 hc).1,λh=>absurd rfl h⟩
  ·exact h2
theorem docFor_ok (o:BOk b) {p:Int}:b.a.has (b.docFor p)∧(b.a.nd (b.docFor p)).kind=1:=by
 unfold BS.docFor;by_cases hp:b.a.has p
 ·have key:∀q,b.a.has q→b.a.has (if(b.a.nd q).doc≠0 then(b.a.nd q).doc else b.doc)∧(b.a.nd (if(b.a.nd q).doc≠0 then(b.a.nd q).doc else b.doc)).kind=1:=by
   intro q hq;split
   ·exact o.ok.doc q hq
   ·exact o.doc
  split
  ·rename_i hc;exact key _ (o.ok.cont p hp hc).1
  ·exact key p hp
 ·rw[nd_no hp];exact o.doc
variable {nm:Bytes} {at_:List Attr} {sp p:Int}
structure Fresh (b b1:BS) (i:Item):Prop where
 has:b1.a.has i.node
 kind:(b1.a.nd i.node).kind=4
 space:(b1.a.nd i.node).space=i.space
 name:(b1.a.nd i.node).name=i.name
 new:¬b.a.has i.node
theorem mk_ok (o:BOk b) (hs:BS.okSp sp):BOk (b.mkB nm at_ sp p)∧Fresh b (b.mkB nm at_ sp p) (b.mkI nm at_ sp)∧Le b.a (b.mkB nm at_ sp p).a:=by
 have hd:=docFor_ok o (p:=p);unfold BS.mkB BS.mkI;rw[if_pos hs,if_pos hs];have ok:=ok_elem (sp:=sp) (nm:=BS.nmOf sp nm) (l:=at_.map (adjAttr sp)) o.ok hd hs (by intro a ha;obtain⟨c,_,rfl⟩:=List.mem_map.1 ha;exact adj_sp)
 have hn:=elem_new (A:=b.a) (d:=b.docFor p) (sp:=sp) (nm:=BS.nmOf sp nm) (l:=at_.map (adjAttr sp));exact⟨o.setA ok le_elem,⟨hn.1,hn.2.1,hn.2.2.1,hn.2.2.2.1,no_new⟩,le_elem⟩
theorem fresh_opn (o:BOk b) {b1:BS} {i:Item} (f:Fresh b b1 i):i.node∉b.opn.map Item.node:=by intro h;obtain⟨j,hj,e⟩:=List.mem_map.1 h;exact f.new (e▸(o.op j hj).1)
theorem fresh_act (o:BOk b) {b1:BS} {i:Item} (f:Fresh b b1 i):i.node∉b.act.map FCor.node:=by
 intro h;obtain⟨j,hj,e⟩:=List.mem_map.1 h;rcases o.ac j hj with h1|h1
 ·have:=f.has.1;omega
 ·exact f.new (e▸h1.1)
theorem nodup_ins {α:Type} [DecidableEq α] {l:List α} {k:Nat} {x:α} (h:l.Nodup) (hx:x∉l):(l.take k++x::l.drop k).Nodup:=by
 have e:=List.take_append_drop k l;rw[List.nodup_append];rw[←e,List.nodup_append] at h;refine⟨h.1,List.nodup_cons.2 ⟨λh1=>hx (List.mem_of_mem_drop h1),h.2.1⟩,?_⟩;rintro a ha c hc rfl;rcases List.mem_cons.1 hc with rfl|hc
 ·exact hx (List.mem_of_mem_take ha)
 ·exact h.2.2 _ ha _ hc rfl
theorem nodup_setF {α:Type} [DecidableEq α] {l:List α} {k:Nat} {x:α} (h:l.Nodup) (hx:x∉l):(l.set k x).Nodup:=by
 rw[List.set_eq_take_append_cons_drop];split
 ·have e:=List.take_append_drop k l;rw[List.nodup_append];rw[←e,List.nodup_append] at h;have hd:List.Sublist (l.drop (k+1)) (l.drop k):=by rw[←List.drop_drop];exact List.drop_sublist _ _
  refine⟨h.1,List.nodup_cons.2 ⟨λh1=>hx (List.mem_of_mem_drop h1),h.2.1.sublist hd⟩,?_⟩;rintro a ha c hc rfl;rcases List.mem_cons.1 hc with rfl|hc
  ·exact hx (List.mem_of_mem_take ha)
  ·exact h.2.2 _ ha _ (hd.subset hc) rfl
 ·exact h
theorem map_insAt {α β:Type} (f:α→β) (l:List α) (k:Nat) (x:α):(l.take k++x::l.drop k).map f=(l.map f).take k++f x::(l.map f).drop k:=by simp
theorem BOk.insO (o:BOk b) {i:Item} {k:Nat} (h1:b.a.has i.node∧(b.a.nd i.node).kind=4∧(b.a.nd i.node).space=i.space∧(b.a.nd i.node).name=i.name) (h2:i.node∉b.opn.map Item.node):BOk {b with opn:=b.opn.take k++i::b.opn.drop k}:=by
 refine⟨o.ok,o.doc,?_,by show((b.opn.take k++i::b.opn.drop k).map Item.node).Nodup;rw[map_insAt];exact nodup_ins o.opN h2,o.ac,o.acN⟩;intro j hj;rcases List.mem_append.1 hj with hj|hj
 ·exact o.op j (List.mem_of_mem_take hj)
 ·rcases List.mem_cons.1 hj with rfl|hj
  ·exact h1
  ·exact o.op j (List.mem_of_mem_drop hj)
theorem BOk.setOpn (o:BOk b) {i:Item} {k:Nat} (h1:b.a.has i.node∧(b.a.nd i.node).kind=4∧(b.a.nd i.node).space=i.space∧(b.a.nd i.node).name=i.name) (h2:i.node∉b.opn.map Item.node):BOk {b with opn:=b.opn.set k i}:=by
 refine⟨o.ok,o.doc,?_,by show((b.opn.set k i).map Item.node).Nodup;rw[List.map_set];exact nodup_setF o.opN h2,o.ac,o.acN⟩;intro j hj;rcases List.mem_or_eq_of_mem_set hj with hj|rfl
 ·exact o.op j hj
 ·exact h1
theorem filt_ins {l:List Int} {k:Nat} {x:Int} (h:(l.filter λn=>decide (n≠0)).Nodup) (hx:x∉l):((l.take k++x::l.drop k).filter λn=>decide (n≠0)).Nodup:=by
 have e:=List.take_append_drop k l;rw[←e,List.filter_append,List.nodup_append] at h;rw[List.filter_append,List.nodup_append];by_cases h0:x=0
 ·subst h0;simpa using h
 ·rw[List.filter_cons_of_pos (by simpa using h0)];refine⟨h.1,List.nodup_cons.2 ⟨λh1=>hx (List.mem_of_mem_drop ((List.mem_filter.1 h1).1)),h.2.1⟩,?_⟩;rintro a ha c hc rfl;rcases List.mem_cons.1 hc with rfl|hc
  ·exact hx (List.mem_of_mem_take (List.mem_filter.1 ha).1)
  ·exact h.2.2 _ ha _ hc rfl
theorem filt_set {l:List Int} {k:Nat} {x:Int} (h:(l.filter λn=>decide (n≠0)).Nodup) (hx:x∉l):((l.set k x).filter λn=>decide (n≠0)).Nodup:=by
 rw[List.set_eq_take_append_cons_drop];split
 ·have h2:(((l.take k++l.drop (k+1))).filter λn=>decide (n≠0)).Nodup:=h.sublist ((show List.Sublist (dropAt l k) l from dropAt_sub).filter _);rw[List.filter_append,List.nodup_append] at h2⊢;by_cases h0:x=0
  ·subst h0;simpa using h2
  ·rw[List.filter_cons_of_pos (by simpa using h0)];refine⟨h2.1,List.nodup_cons.2 ⟨λh1=>hx (List.mem_of_mem_drop ((List.mem_filter.1 h1).1)),h2.2.1⟩,?_⟩;rintro a ha c hc rfl;rcases List.mem_cons.1 hc with rfl|hc
   ·exact hx (List.mem_of_mem_take (List.mem_filter.1 ha).1)
   ·exact h2.2.2 _ ha _ hc rfl
 ·exact h
theorem BOk.insC (o:BOk b) {e:FCor} {k:Nat} (h1:e.node=0∨(b.a.has e.node∧(b.a.nd e.node).kind=4)) (h2:e.node=0∨e.node∉b.act.map FCor.node):BOk {b with act:=b.act.take k++e::b.act.drop k}:=by
 refine⟨o.ok,o.doc,o.op,o.opN,?_,?_⟩
 ·intro j hj;rcases List.mem_append.1 hj with hj|hj
  ·exact o.ac j (List.mem_of_mem_take hj)
  ·rcases List.mem_cons.1 hj with rfl|hj
   ·exact h1
   ·exact o.ac j (List.mem_of_mem_drop hj)
 ·show(((b.act.take k++e::b.act.drop k).map FCor.node).filter _).Nodup;rw[map_insAt];rcases h2 with h2|h2
  ·have:=o.acN
   conv at this=>rw[←List.take_append_drop k (b.act.map FCor.node),List.filter_append]
   rw[List.filter_append,List.filter_cons_of_neg (by simp[h2])];exact this
  ·exact filt_ins o.acN h2
theorem BOk.setAct (o:BOk b) {e:FCor} {k:Nat} (h1:b.a.has e.node∧(b.a.nd e.node).kind=4) (h2:e.node∉b.act.map FCor.node):BOk {b with act:=b.act.set k e}:=by
 refine⟨o.ok,o.doc,o.op,o.opN,?_,?_⟩
 ·intro j hj;rcases List.mem_or_eq_of_mem_set hj with hj|rfl
  ·exact o.ac j hj
  ·exact .inr h1
 ·show(((b.act.set k e).map FCor.node).filter _).Nodup;rw[List.map_set];exact filt_set o.acN h2
theorem ins_ok (o:BOk b):BOk (b.insB nm at_ sp):=by
 unfold BS.insB;split
 ·rename_i hs;obtain⟨o1,f,hl⟩:=mk_ok (nm:=nm) (at_:=at_) (p:=(b.place 0).1) o hs;have o2:=o1.setA (ok_bput (n:=b.a.len+1) (p:=(b.place 0).1) (b:=(b.place 0).2) o1.ok) le_bput;have hn:(b.mkI nm at_ sp).node=b.a.len+1:=by unfold BS.mkI;rw[if_pos hs]
  have l2:Le (b.mkB nm at_ sp (b.place 0).1).a ((b.mkB nm at_ sp (b.place 0).1).a.bput (b.a.len+1) (b.place 0).1 (b.place 0).2):=le_bput;have ho:(b.mkB nm at_ sp (b.place 0).1).opn=b.opn:=by unfold BS.mkB;rw[if_pos hs]
  have:=o2.insO (i:=b.mkI nm at_ sp) (k:=b.opn.length) ⟨l2.has _ f.has,by rw[l2.kind _ f.has];exact f.kind,by rw[l2.space _ f.has];exact f.space,by rw[l2.name _ f.has];exact f.name⟩ (by simp only[ho];exact fresh_opn o f);simp only[ho,List.take_length,List.drop_length] at this;simp only[ho];exact this
 ·exact o
theorem pushC_ok {l:List FCor} {e:FCor}:∃l',List.Sublist l' l∧pushC e l=l'++[e]:=by
 unfold pushC;split
 ·exact⟨_,dropAt_sub,rfl⟩
 ·exact⟨_,List.Sublist.refl _,rfl⟩
theorem le_insB:Le b.a (b.insB nm at_ sp).a:=by
 unfold BS.insB BS.mkB;split
 ·exact Le.trans le_elem le_bput
 ·exact .refl
theorem new_insB (hs:BS.okSp sp):(b.insB nm at_ sp).a.has (b.a.len+1)∧((b.insB nm at_ sp).a.nd (b.a.len+1)).kind=4:=by
 unfold BS.insB BS.mkB;rw[if_pos hs];simp only
 rw[if_pos hs];have hn:=elem_new (A:=b.a) (d:=b.docFor (b.place 0).1) (sp:=sp) (nm:=BS.nmOf sp nm) (l:=at_.map (adjAttr sp));exact⟨le_bput.has _ hn.1,by rw[le_bput.kind _ hn.1];exact hn.2.1⟩
theorem act_insB:(b.insB nm at_ sp).act=b.act:=by unfold BS.insB BS.mkB;split<;>rfl
theorem hs1:BS.okSp 1:=⟨by decide,by decide⟩
theorem new_not (o:BOk b):b.a.len+1∉b.act.map FCor.node:=by
 intro h;obtain⟨j,hj,e⟩:=List.mem_map.1 h;rcases o.ac j hj with h1|h1
 ·unfold Ar.len at e;omega
 ·exact no_new (e▸h1.1)
theorem format_ok (o:BOk b):BOk (b.format nm at_):=by
 have o1:=ins_ok (nm:=nm) (at_:=at_) (sp:=1) o;unfold BS.format;simp only
 obtain⟨l',h1,h2⟩:=pushC_ok (l:=(b.insB nm at_ 1).act) (e:=⟨b.a.len+1,nm,at_⟩);rw[h2];have o2:=o1.subC h1;have:=o2.insC (e:=⟨b.a.len+1,nm,at_⟩) (k:=l'.length) (.inr (new_insB hs1)) (.inr (by intro h;rw[act_insB] at h1;exact new_not o ((h1.map FCor.node).subset h)))
 simpa using this
theorem BOk.of_eq {c:BS} (o:BOk b) (h1:c.a=b.a) (h2:c.doc=b.doc) (h3:c.opn=b.opn) (h4:c.act=b.act):BOk c:=
 ⟨h1▸o.ok,by rw[h1,h2];exact o.doc,by rw[h1,h3];exact o.op,by rw[h3];exact o.opN,by rw[h1,h4];exact o.ac,by rw[h4];exact o.acN⟩
theorem prevOf_mem {l:List Int} {bf t:Int} (h:prevOf l bf=some t):t∈l:=by
 unfold prevOf at h;split at h
 ·exact List.mem_of_getLast? h
 ·exact(List.takeWhile_sublist _).subset (List.mem_of_getLast? h)
theorem charAt_ok {A:Ar} {s:Bytes} {p bf:Int} (ok:ArOk A 0) (hp:A.has p):ArOk (BS.charAt A s p bf) 0∧Le A (BS.charAt A s p bf):=by
 have h0:(0:Int)≠A.len+1:=by unfold Ar.len;omega
 have ha:=ok_bput (n:=A.len+1) (p:=p) (b:=bf) (ok_addC (s:=s) (kd:=5) ok h0 (ok.doc p hp) (.inl rfl));have hl:Le A ((A.add {kind:=5,doc:=(A.nd p).doc,data:=s}).bput (A.len+1) p bf):=Le.trans le_add le_bput;unfold BS.charAt;split
 ·split
  ·rename_i t ht;split
   ·rename_i hk;exact⟨ok_setData ok (ok.kid p hp _ (prevOf_mem ht)).1 (.inl hk),le_setData⟩
   ·exact⟨ha,hl⟩
  ·exact⟨ha,hl⟩
 ·exact⟨ok,.refl⟩
theorem char_ok (o:BOk b) {r:Int}:BOk (b.char r):=by have h:=charAt_ok (s:=utf8 r) (bf:=(b.place 0).2) o.ok (place_ok o (.inl rfl)).1;exact o.setA h.1 h.2
theorem commentAt_ok {A:Ar} {s:Bytes} {p bf:Int} (ok:ArOk A 0):ArOk (BS.commentAt A s p bf) 0∧Le A (BS.commentAt A s p bf):=by
 unfold BS.commentAt;split
 ·rename_i hk;have hp:A.has p:=by
   by_cases hp:A.has p
   ·exact hp
   ·rw[nd_no hp] at hk;unfold isPar at hk;simp at hk
  have h0:(0:Int)≠A.len+1:=by unfold Ar.len;omega
  exact⟨ok_bput (ok_addC (s:=s) (kd:=6) ok h0 (ok.doc p hp) (.inr rfl)),Le.trans le_add le_bput⟩
 ·exact⟨ok,.refl⟩
theorem comment_ok (o:BOk b) {s:Bytes} {p:Int}:BOk (b.comment s p):=by
 unfold BS.comment;split
 ·have h:=commentAt_ok (s:=s) (p:=(b.place 0).1) (bf:=(b.place 0).2) o.ok;exact o.setA h.1 h.2
 ·have h:=commentAt_ok (s:=s) (p:=p) (bf:=0) o.ok;exact o.setA h.1 h.2
theorem rawText_ok (o:BOk b) {st:Int}:BOk (b.rawText nm at_ st):=(ins_ok o).of_eq rfl rfl rfl rfl
theorem closeP_ok (o:BOk b):BOk b.closeP:=by
 unfold BS.closeP;split
 ·exact o.subO (pops_sub.trans pops_sub)
 ·exact o
theorem anyEnd_ok (o:BOk b):BOk (b.anyEnd nm):=by
 unfold BS.anyEnd;split
 ·split
  ·exact o.subO (popNode_sub.trans pops_sub)
  ·exact o
 ·exact o
theorem reset_ok (o:BOk b):BOk b.reset:=o.of_eq rfl rfl rfl rfl
theorem merge_ok (o:BOk b) {l:List Attr} {h:Int}:BOk (b.merge l h):=by
 unfold BS.merge;split
 ·rename_i hk;have hh:b.a.has h:=by
   by_cases hp:b.a.has h
   ·exact hp
   ·rw[nd_no hp] at hk;simp at hk
  refine o.setA (ok_setAttrs o.ok hh hk ?_) le_setAttrs;intro a ha;rcases List.mem_append.1 ha with ha|ha
  ·exact(o.ok.nok h hh).asp a ha
  ·obtain⟨c,_,rfl⟩:=List.mem_map.1 ha;simp
 ·exact o
theorem endTemplate_ok (o:BOk b):BOk b.endTemplate:=by
 unfold BS.endTemplate;split
 ·exact o
 ·have o1:=(o.subO (pops_sub (p:=never) (q:=isOne [wTemplate]) (l:=pops unthorough never b.opn) |>.trans pops_sub)).subC (l:=clearC b.act) (List.take_sublist _ _);exact(reset_ok (b:={b with opn:=pops never (isOne [wTemplate]) (pops unthorough never b.opn),act:=clearC b.act,tm:=b.tm.dropLast}) (o1.of_eq rfl rfl rfl rfl))
theorem pop_ok (o:BOk b):BOk b.pop:=by
 unfold BS.pop;split
 ·exact o
 ·exact o.subO (List.take_sublist _ _)
structure RebOk (b:BS) (l:List FCor) (r:List FCor×BS):Prop where
 ok:BOk r.2
 le:Le b.a r.2.a
 act:r.2.act=b.act
 len:r.1.length=l.length
 nodes:∀e∈r.1,r.2.a.has e.node∧(r.2.a.nd e.node).kind=4∧¬b.a.has e.node
 nodup:(r.1.map FCor.node).Nodup
 names:r.1.map FCor.name=l.map FCor.name
theorem rebF_ok:∀{l:List FCor} {b:BS},BOk b→RebOk b l (BS.rebF l b)
 |[],b,o=>by
  refine⟨o,.refl,rfl,rfl,?_,?_,rfl⟩
  ·intro e he
   cases he
  ·exact List.nodup_nil
 |e::l,b,o=>by
  have o1:=ins_ok (nm:=e.name) (at_:=e.attrs) (sp:=1) o;have r:=rebF_ok (l:=l) o1;have hl:Le b.a (b.insB e.name e.attrs 1).a:=le_insB;have hn:=new_insB (b:=b) (nm:=e.name) (at_:=e.attrs) hs1;refine⟨r.ok,hl.trans r.le,r.act.trans act_insB,by simp[BS.rebF,r.len],?_,?_,by simp[BS.rebF,r.names]⟩
  ·intro c hc;rcases List.mem_cons.1 hc with rfl|hc
   ·exact⟨r.le.has _ hn.1,(r.le.kind _ hn.1).trans hn.2,no_new⟩
   ·have:=r.nodes c hc;exact⟨this.1,this.2.1,λh=>this.2.2 (hl.has _ h)⟩
  ·simp only[BS.rebF,List.map_cons,List.nodup_cons];refine⟨λh=>?_,r.nodup⟩;obtain⟨c,hc,e1⟩:=List.mem_map.1 h;exact(r.nodes c hc).2.2 (e1▸hn.1)
theorem rebuild_ok (o:BOk b):BOk b.rebuild:=by
 have r:=rebF_ok (l:=b.act.drop b.rebK) o;unfold BS.rebuild;simp only
 have hc:=acOk_le r.le o.ac;refine⟨r.ok.ok,r.ok.doc,r.ok.op,r.ok.opN,?_,?_⟩
 ·intro e he;rcases List.mem_append.1 he with he|he
  ·exact hc e (List.mem_of_mem_take he)
  ·exact .inr ⟨(r.nodes e he).1,(r.nodes e he).2.1⟩
 ·show(((b.act.take b.rebK++(BS.rebF (b.act.drop b.rebK) b).1).map FCor.node).filter _).Nodup;rw[List.map_append,List.filter_append,List.nodup_append];refine⟨o.acN.sublist (((List.take_sublist _ _).map _).filter _),r.nodup.filter _,?_⟩;rintro a ha c hc2 rfl;obtain⟨e1,h1,rfl⟩:=List.mem_map.1 (List.mem_filter.1 ha).1;obtain⟨e2,h2,e3⟩:=List.mem_map.1 (List.mem_filter.1 hc2).1;have h3:=(r.nodes e2 h2);rw[e3] at h3;rcases o.ac e1 (List.mem_of_mem_take h1) with h4|h4
  ·have:=h3.1.1;omega
  ·exact h3.2.2 h4.1
theorem betw1_ok (o:BOk b) {blk anc:Int} {far i:Nat} {l:Int} {m:Nat} (hl:b.a.has l):BOk (BS.betw1 blk anc far i b l m).1∧(BS.betw1 blk anc far i b l m).1.a.has (BS.betw1 blk anc far i b l m).2.1∧Le b.a (BS.betw1 blk anc far i b l m).1.a:=by
 unfold BS.betw1;simp only
 split
 ·exact⟨o.subO dropAt_sub,hl,.refl⟩
 ·split
  ·exact⟨(o.subC dropAt_sub).subO dropAt_sub,hl,.refl⟩
  ·generalize hen:b.act.getD (entC (b.opn.getD i Item.zero).node b.act).toNat FCor.zero=en;obtain⟨o1,f,hle⟩:=mk_ok (nm:=en.name) (at_:=en.attrs) (p:=anc) o hs1;have l2:Le (b.mkB en.name en.attrs 1 anc).a ((b.mkB en.name en.attrs 1 anc).a.tput (b.mkI en.name en.attrs 1).node l 0):=le_tput;have hop:(b.mkB en.name en.attrs 1 anc).opn=b.opn:=by unfold BS.mkB;rw[if_pos hs1]
   have hac:(b.mkB en.name en.attrs 1 anc).act=b.act:=by unfold BS.mkB;rw[if_pos hs1]
   have o2:=o1.setA (ok_tput (p:=(b.mkI en.name en.attrs 1).node) (n:=l) (b:=0) o1.ok) l2;have o3:=o2.setOpn (i:=b.mkI en.name en.attrs 1) (k:=i) ⟨l2.has _ f.has,by rw[l2.kind _ f.has];exact f.kind,by rw[l2.space _ f.has];exact f.space,by rw[l2.name _ f.has];exact f.name⟩ (by simp only[hop];exact fresh_opn o f);have o4:=o3.setAct (e:={en with node:=(b.mkI en.name en.attrs 1).node}) (k:=(entC (b.opn.getD i Item.zero).node b.act).toNat) ⟨l2.has _ f.has,by rw[l2.kind _ f.has];exact f.kind⟩ (by simp only[hac];exact fresh_act o f);exact⟨o4,l2.has _ f.has,hle.trans l2⟩
theorem betw_ok {blk anc:Int} {far k:Nat}:∀{c:Nat} {s:BS×Int×Nat},BOk s.1→s.1.a.has s.2.1→BOk (BS.betw blk anc far k c s).1∧(BS.betw blk anc far k c s).1.a.has (BS.betw blk anc far k c s).2.1∧Le s.1.a (BS.betw blk anc far k c s).1.a
 |0,s,o,h=>⟨o,h,.refl⟩
 |c+1,s,o,h=>by obtain⟨o1,h1,l1⟩:=betw1_ok (blk:=blk) (anc:=anc) (far:=far) (i:=k+(c+1)) (m:=s.2.2) o h;obtain⟨o2,h2,l2⟩:=betw_ok (blk:=blk) (anc:=anc) (far:=far) (k:=k) (c:=c) o1 h1;exact⟨o2,h2,l1.trans l2⟩
theorem moveKids_ok {n:Int}:∀{l:List Int} {A:Ar},ArOk A 0→ArOk (BS.moveKids A n l) 0∧Le A (BS.moveKids A n l)
 |[],A,ok=>⟨ok,.refl⟩
 |x::l,A,ok=>by have h:=moveKids_ok (n:=n) (l:=l) (ok_tput (p:=n) (n:=x) (b:=0) ok);exact⟨h.1,Le.trans le_tput h.2⟩
theorem roundE_ok {fe:FCor} {blk anc:Int} {s:BS×Int×Nat} (o:BOk s.1):BOk (BS.roundE fe blk anc s)∧Le s.1.a (BS.roundE fe blk anc s).a:=by
 unfold BS.roundE;simp only
 generalize hpb:s.1.place anc=pb;have l1:Le s.1.a (s.1.a.bput s.2.1 pb.1 pb.2):=le_bput;have o1:=o.setA (ok_bput (n:=s.2.1) (p:=pb.1) (b:=pb.2) o.ok) l1;generalize hb2:({s.1 with a:=s.1.a.bput s.2.1 pb.1 pb.2}:BS)=b2 at o1;have ha2:b2.a=s.1.a.bput s.2.1 pb.1 pb.2:=by rw[←hb2]
 have ho2:b2.opn=s.1.opn:=by rw[←hb2]
 have hc2:b2.act=s.1.act:=by rw[←hb2]
 obtain⟨o3,f,l3⟩:=mk_ok (nm:=fe.name) (at_:=fe.attrs) (p:=blk) o1 hs1;have hop:(b2.mkB fe.name fe.attrs 1 blk).opn=b2.opn:=by unfold BS.mkB;rw[if_pos hs1]
 have hac:(b2.mkB fe.name fe.attrs 1 blk).act=b2.act:=by unfold BS.mkB;rw[if_pos hs1]
 generalize hb3:b2.mkB fe.name fe.attrs 1 blk=b3 at*;generalize hn:b2.mkI fe.name fe.attrs 1=n at*;obtain⟨ok4,l4⟩:=moveKids_ok (n:=n.node) (l:=(b3.a.nd blk).kids) o3.ok;have ok5:=ok_tput (p:=blk) (n:=n.node) (b:=0) ok4;have l5:Le b3.a ((BS.moveKids b3.a n.node (b3.a.nd blk).kids).tput blk n.node 0):=l4.trans le_tput;have o5:=o3.setA ok5 l5;have fr:((BS.moveKids b3.a n.node (b3.a.nd blk).kids).tput blk n.node 0).has n.node∧(((BS.moveKids b3.a n.node (b3.a.nd blk).kids).tput blk n.node 0).nd n.node).kind=4∧(((BS.moveKids b3.a n.node (b3.a.nd blk).kids).tput blk n.node 0).nd n.node).space=n.space∧(((BS.moveKids b3.a n.node (b3.a.nd blk).kids).tput blk n.node 0).nd n.node).name=n.name:=
  ⟨l5.has _ f.has,by rw[l5.kind _ f.has];exact f.kind,by rw[l5.space _ f.has];exact f.space,by rw[l5.name _ f.has];exact f.name⟩
 have o6:=(o5.subC (l:=dropAt b3.act (entC fe.node b3.act).toNat) dropAt_sub).subO (l:=removed fe.node b3.opn) removed_sub;have n1:n.node∉(removed fe.node b3.opn).map Item.node:=λh=>fresh_opn o1 f ((removed_sub.map Item.node).subset (by rw[hop] at h;exact h));have n2:n.node∉(dropAt b3.act (entC fe.node b3.act).toNat).map FCor.node:=λh=>fresh_act o1 f ((dropAt_sub.map FCor.node).subset (by rw[hac] at h;exact h));refine⟨(o6.insO (i:=n) fr n1).insC (e:={fe with node:=n.node}) (.inr ⟨fr.1,fr.2.1⟩) (.inr n2),?_⟩;rw[ha2] at l3;exact l1.trans (l3.trans l5)
theorem round_ok (o:BOk b):BOk (b.round nm).2∧Le b.a (b.round nm).2.a:=by
 have hla:Le b.a (b.anyEnd nm).a:=by
  unfold BS.anyEnd;split
  ·split<;>exact .refl
  ·exact .refl
 unfold BS.round;simp only
 split
 ·exact⟨anyEnd_ok o,hla⟩
 ·split
  ·exact⟨o.subC dropAt_sub,.refl⟩
  ·split
   ·exact⟨o,.refl⟩
   ·split
    ·exact⟨(o.subO popNode_sub).subC dropAt_sub,.refl⟩
    ·rename_i hf;have hfar:furthest (b.act.getD (findC nm b.act).toNat FCor.zero).node b.opn<b.opn.length:=by
      rw[furthest_eq];split
      ·omega
      ·unfold firstFrom;split
       ·rename_i k hk;have:=(List.findIdx?_eq_some_iff_findIdx_eq.1 hk).1;rw[List.length_drop] at this;omega
       ·omega
     have hb:b.a.has (b.opn.getD (furthest (b.act.getD (findC nm b.act).toNat FCor.zero).node b.opn).toNat Item.zero).node:=by rw[List.getD_eq_getElem?_getD,List.getElem?_eq_getElem (by omega)];exact(o.op _ (List.getElem_mem _)).1
     obtain⟨o1,h1,l1⟩:=betw_ok (blk:=(b.opn.getD (furthest (b.act.getD (findC nm b.act).toNat FCor.zero).node b.opn).toNat Item.zero).node) (anc:=(b.opn.getD ((lastIdx (isNode (b.act.getD (findC nm b.act).toNat FCor.zero).node) b.opn).toNat-1) Item.zero).node) (far:=(furthest (b.act.getD (findC nm b.act).toNat FCor.zero).node b.opn).toNat) (k:=(lastIdx (isNode (b.act.getD (findC nm b.act).toNat FCor.zero).node) b.opn).toNat) (c:=(furthest (b.act.getD (findC nm b.act).toNat FCor.zero).node b.opn).toNat-1 -(lastIdx (isNode (b.act.getD (findC nm b.act).toNat FCor.zero).node) b.opn).toNat) (s:=(b,(b.opn.getD (furthest (b.act.getD (findC nm b.act).toNat FCor.zero).node b.opn).toNat Item.zero).node,(findC nm b.act).toNat)) o hb;have r:=roundE_ok (fe:=b.act.getD (findC nm b.act).toNat FCor.zero) (blk:=(b.opn.getD (furthest (b.act.getD (findC nm b.act).toNat FCor.zero).node b.opn).toNat Item.zero).node) (anc:=(b.opn.getD ((lastIdx (isNode (b.act.getD (findC nm b.act).toNat FCor.zero).node) b.opn).toNat-1) Item.zero).node) o1;exact⟨r.1,l1.trans r.2⟩
theorem rounds_ok:∀{n:Nat} {b:BS},BOk b→BOk (BS.rounds n b nm)∧Le b.a (BS.rounds n b nm).a
 |0,b,o=>⟨o,.refl⟩
 |n+1,b,o=>by
  obtain⟨o1,l1⟩:=round_ok (nm:=nm) o;unfold BS.rounds;simp only
  split
  ·have r:=rounds_ok (n:=n) o1;exact⟨r.1,l1.trans r.2⟩
  ·exact⟨o1,l1⟩
theorem agency_ok (o:BOk b):BOk (b.agency nm):=by
 unfold BS.agency;split
 ·exact pop_ok o
 ·exact(rounds_ok o).1
end
end Go.Am
end
section
namespace Go.Am
set_option maxRecDepth 100000
structure Lim (A:Ar):Prop where
 n:A.n.length≤1000000000
 at_:∀x,(A.nd x).attrs.length≤1000000000
 data:∀x,(A.nd x).data.length≤1000000000
def SmallA (l:List Attr):Prop:=l.length≤1000∧∀a∈l,a.name.length≤1000∧a.value.length≤1000
structure Room (b:BS) (m:Nat):Prop where
 n:b.a.n.length+m≤900000000
 at_:∀x,(b.a.nd x).attrs.length+m≤1000000000
 data:∀x,(b.a.nd x).data.length+m≤1000000000
 opn:b.opn.length+m≤900000000
 act:b.act.length+m≤900000000
 tm:b.tm.length+m≤900000000
 ents:∀e∈b.act,e.name.length≤1000∧SmallA e.attrs
 nms:∀i∈b.opn,i.name.length≤1000
theorem Room.lim {b:BS} {m:Nat} (r:Room b m):Lim b.a:=⟨by have:=r.n;omega,λx=>by have:=r.at_ x;omega,λx=>by have:=r.data x;omega⟩
theorem Room.le {b:BS} {m m':Nat} (r:Room b m) (hm:m'≤m):Room b m':=⟨by have:=r.n;omega,λx=>by have:=r.at_ x;omega,λx=>by have:=r.data x;omega,by have:=r.opn;omega,by have:=r.act;omega,by have:=r.tm;omega,r.ents,r.nms⟩
theorem adj_value {sp:Int} {y:Attr}:(adjAttr sp y).value=y.value:=by
 unfold adjAttr;split
 ·split<;>rfl
 ·rfl
structure Same (A A':Ar):Prop where
 n:A'.n.length=A.n.length
 at_:∀x,(A'.nd x).attrs=(A.nd x).attrs
 data:∀x,(A'.nd x).data=(A.nd x).data
section
variable {A A' A'':Ar} {x p bf:Int} {b:BS} {m:Nat}
theorem Same.refl:Same A A:=⟨rfl,λ_=>rfl,λ_=>rfl⟩
theorem Same.trans (h:Same A A') (k:Same A' A''):Same A A'':=⟨k.n.trans h.n,λx=>(k.at_ x).trans (h.at_ x),λx=>(k.data x).trans (h.data x)⟩
theorem same_set {y:ANode} (h1:y.attrs=(A.nd x).attrs) (h2:y.data=(A.nd x).data):Same A (A.set x y):=by
 refine⟨nlen_set,λk=>?_,λk=>?_⟩<;>rw[nd_set]<;>split
 ·rename_i e;rw[h1,e.1]
 ·rfl
 ·rename_i e;rw[h2,e.1]
 ·rfl
theorem same_setK {l:List Int}:Same A (A.set x {A.nd x with kids:=l}):=same_set rfl rfl
theorem same_setP:Same A (A.set x {A.nd x with par:=p}):=same_set rfl rfl
theorem same_tput:Same A (A.tput p x bf):=by
 unfold Ar.tput;split
 ·refine Same.trans ?_ (Same.trans same_setK same_setP);unfold Ar.cut;simp only;split
  ·exact .refl
  ·exact Same.trans same_setK same_setP
 ·exact .refl
theorem same_bput:Same A (A.bput x p bf):=by unfold Ar.bput;split;exact .refl;exact same_tput
theorem same_moveKids {n:Int}:∀{l:List Int} {A:Ar},Same A (BS.moveKids A n l)
 |[],A=> .refl
 |y::l,A=>Same.trans same_tput (same_moveKids (l:=l))
theorem Room.same {c:BS} (r:Room b m) (h:Same b.a c.a) (h1:c.opn.length≤b.opn.length) (h2:c.act.length≤b.act.length) (h3:c.tm.length≤b.tm.length) (h4:∀e∈c.act,e.name.length≤1000∧SmallA e.attrs) (h5:∀i∈c.opn,i.name.length≤1000):Room c m:=
 ⟨by rw[h.n];exact r.n,λx=>by rw[h.at_];exact r.at_ x,λx=>by rw[h.data];exact r.data x,by have:=r.opn;omega,by have:=r.act;omega,by have:=r.tm;omega,h4,h5⟩
theorem Room.setA {A':Ar} (r:Room b m) (h:Same b.a A'):Room {b with a:=A'} m:=r.same h (Nat.le_refl _) (Nat.le_refl _) (Nat.le_refl _) r.ents r.nms
theorem Room.subO {l:List Item} (r:Room b m) (h:List.Sublist l b.opn):Room {b with opn:=l} m:=r.same .refl h.length_le (Nat.le_refl _) (Nat.le_refl _) r.ents λi hi=>r.nms i (h.subset hi)
theorem Room.subC {l:List FCor} (r:Room b m) (h:List.Sublist l b.act):Room {b with act:=l} m:=r.same .refl (Nat.le_refl _) h.length_le (Nat.le_refl _) (λe he=>r.ents e (h.subset he)) r.nms
theorem Room.eq {c:BS} (r:Room b m) (h1:c.a=b.a) (h2:c.opn=b.opn) (h3:c.act=b.act) (h4:c.tm=b.tm):Room c m:=⟨by rw[h1];exact r.n,by rw[h1];exact r.at_,by rw[h1];exact r.data,by rw[h2];exact r.opn,by rw[h3];exact r.act,by rw[h4];exact r.tm,by rw[h3];exact r.ents,by rw[h2];exact r.nms⟩
structure Grow (A A':Ar) (k:Nat):Prop where
 n:A'.n.length≤A.n.length+k
 at_:∀x,(A'.nd x).attrs.length≤max (A.nd x).attrs.length 1000
 data:∀x,(A'.nd x).data.length≤max (A.nd x).data.length 100000
theorem grow_add {y:ANode} (h1:y.attrs.length≤1000) (h2:y.data.length≤100000):Grow A (A.add y) 1:=by refine⟨by simp[Ar.add],λx=>?_,λx=>?_⟩<;>rw[nd_add]<;>split<;>omega
theorem Grow.trans {k k':Nat} (h:Grow A A' k) (g:Grow A' A'' k'):Grow A A'' (k+k'):=
 ⟨by have:=h.n;have:=g.n;omega,λx=>by have:=h.at_ x;have:=g.at_ x;omega,λx=>by have:=h.data x;have:=g.data x;omega⟩
theorem Grow.le {k k':Nat} (h:Grow A A' k) (hk:k≤k'):Grow A A' k':=⟨by have:=h.n;omega,h.at_,h.data⟩
theorem grow_same (h:Same A A'):Grow A A' 0:=⟨by rw[h.n];exact Nat.le_refl _,λx=>by rw[h.at_];omega,λx=>by rw[h.data];omega⟩
theorem grow_inert:Grow A (A.inertA x) 1:=by
 unfold Ar.inertA;split
 ·exact(grow_same .refl).le (by omega)
 ·have:=grow_add (A:=A) (y:={kind:=1,doc:=A.len+1}) (Nat.zero_le _) (Nat.zero_le _);exact⟨this.n,this.at_,this.data⟩
theorem grow_set {y:ANode} (h1:y.attrs.length≤1000) (h2:y.data.length≤100000):Grow A (A.set x y) 0:=by refine⟨by rw[nlen_set];exact Nat.le_refl _,λx=>?_,λx=>?_⟩<;>rw[nd_set]<;>split<;>omega
theorem grow_elem {d sp:Int} {nm:Bytes} {l:List Attr} (hl:l.length≤1000):Grow A (A.elem d sp nm l) 3:=by
 have ho:=Nat.le_trans (once_le (l:=l)) hl;have g1:=grow_add (A:=A) (y:={kind:=4,doc:=d,space:=sp,name:=nm,attrs:=once l}) ho (Nat.zero_le _);unfold Ar.elem;simp only
 split
 ·have g2:=grow_inert (A:=A.add {kind:=4,doc:=d,space:=sp,name:=nm,attrs:=once l}) (x:=d);have g3:=grow_add (A:=(A.add {kind:=4,doc:=d,space:=sp,name:=nm,attrs:=once l}).inertA d) (y:={kind:=2,host:=A.len+1,doc:=(A.add {kind:=4,doc:=d,space:=sp,name:=nm,attrs:=once l}).inertH d}) (Nat.zero_le _) (Nat.zero_le _);exact g1.trans (k':=2) (g2.trans (k':=1) (g3.trans (k':=0) (grow_set ho (Nat.zero_le _))))
 ·exact g1.le (by omega)
theorem Room.grow {A':Ar} {k:Nat} (r:Room b (m+k)) (h:Grow b.a A' k):Room {b with a:=A'} m:=
 ⟨by have:=r.n;have:=h.n;simp only;omega,λx=>by have:=r.at_ x;have:=h.at_ x;have:=r.n;simp only;omega,λx=>by have:=r.data x;have:=h.data x;have:=r.n;simp only;omega,by have:=r.opn;simp only;omega,by have:=r.act;simp only;omega,by have:=r.tm;simp only;omega,r.ents,r.nms⟩
theorem nmOf_len {sp:Int} {nm:Bytes}:(BS.nmOf sp nm).length=nm.length:=by
 unfold BS.nmOf;split
 ·rcases adjustedIn_spec nm rSvgNames with h|h
  ·rw[h]
  ·conv=>rhs;rw[←h.2,lower_length]
 ·rfl
variable {nm:Bytes} {l:List Attr} {sp:Int}
theorem mk_room (r:Room b (m+3)) (hl:SmallA l):Room (b.mkB nm l sp p) m:=by
 unfold BS.mkB;split
 ·exact r.grow (grow_elem (by rw[List.length_map];exact hl.1))
 ·exact r.le (by omega)
theorem mkI_name (hn:nm.length≤1000):(b.mkI nm l sp).name.length≤1000:=by
 unfold BS.mkI;split
 ·show(BS.nmOf sp nm).length≤1000;rw[nmOf_len];exact hn
 ·exact Nat.zero_le _
theorem Room.consO {i:Item} {l':List Item} (r:Room b (m+1)) (h1:l'.length≤b.opn.length+1) (h2:∀j∈l',j∈b.opn∨j=i) (hi:i.name.length≤1000):Room {b with opn:=l'} m:=
 ⟨by have:=r.n;simp only;omega,λx=>by have:=r.at_ x;simp only;omega,λx=>by have:=r.data x;simp only;omega,by have:=r.opn;simp only;omega,by have:=r.act;simp only;omega,by have:=r.tm;simp only;omega,r.ents,λj hj=>by
  rcases h2 j hj with h|rfl
  ·exact r.nms j h
  ·exact hi⟩
theorem Room.consC {e:FCor} {l':List FCor} (r:Room b (m+1)) (h1:l'.length≤b.act.length+1) (h2:∀j∈l',j∈b.act∨j=e) (hi:e.name.length≤1000∧SmallA e.attrs):Room {b with act:=l'} m:=
 ⟨by have:=r.n;simp only;omega,λx=>by have:=r.at_ x;simp only;omega,λx=>by have:=r.data x;simp only;omega,by have:=r.opn;simp only;omega,by have:=r.act;simp only;omega,by have:=r.tm;simp only;omega,λj hj=>by
  rcases h2 j hj with h|rfl
  ·exact r.ents j h
  ·exact hi,r.nms⟩
theorem ins_room (r:Room b (m+4)) (hl:SmallA l) (hn:nm.length≤1000):Room (b.insB nm l sp) m:=by
 unfold BS.insB;split
 ·rename_i hs;have r1:=mk_room (m:=m+1) (nm:=nm) (sp:=sp) (p:=(b.place 0).1) (r.le (by omega)) hl;have r2:=r1.setA (same_bput (x:=b.a.len+1) (p:=(b.place 0).1) (bf:=(b.place 0).2));have ho:(b.mkB nm l sp (b.place 0).1).opn=b.opn:=by unfold BS.mkB;rw[if_pos hs]
  refine r2.consO (i:=b.mkI nm l sp) (by simp only[List.length_append,List.length_singleton];exact Nat.le_refl _) (λj hj=>?_) (mkI_name hn);rcases List.mem_append.1 hj with h|h
  ·exact .inl h
  ·exact .inr (by simpa using h)
 ·exact r.le (by omega)
theorem format_room (r:Room b (m+5)) (hl:SmallA l) (hn:nm.length≤1000):Room (b.format nm l) m:=by
 have r1:=ins_room (m:=m+1) (sp:=1) (nm:=nm) (r.le (by omega)) hl hn;unfold BS.format;simp only
 obtain⟨l',h1,h2⟩:=pushC_ok (l:=(b.insB nm l 1).act) (e:=⟨b.a.len+1,nm,l⟩);rw[h2];refine r1.consC (e:=⟨b.a.len+1,nm,l⟩) (by have:=h1.length_le;simp;omega) (λj hj=>?_) ⟨hn,hl⟩;rcases List.mem_append.1 hj with h|h
 ·exact .inl (h1.subset h)
 ·exact .inr (by simpa using h)
end
end Go.Am
end
