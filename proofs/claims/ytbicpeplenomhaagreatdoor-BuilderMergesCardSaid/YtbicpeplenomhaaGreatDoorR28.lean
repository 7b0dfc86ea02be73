/- Parts of the proof. No law is claimed here. -/
import Derived.Test.YtbicpeplenomhaaGreatDoorR27
import Derived.Test.YtbicpeplenomhaaGreatDoorR23
set_option linter.unusedVariables false
set_option linter.unusedSimpArgs false
section
namespace Go.Am
set_option maxRecDepth 100000
section
variable {l:List Int} {bf t N:Int} {k:Nat}
theorem prevK (hb:bf=0→k=l.length) (h2:bf≠0→l.takeWhile (λy=>decide (y≠bf))=l.take k) (hk:k≤l.length) (h:prevOf l bf=some t):1≤k∧l[k-1]?=some t:=by
 have e:prevOf l bf=(l.take k).getLast?:=by
  unfold prevOf;split
  ·rename_i h0;rw[hb h0,List.take_length]
  ·rename_i h0;rw[h2 h0]
 rw[e,List.getLast?_eq_getElem?,List.length_take,Nat.min_eq_left hk] at h;have h0:k≠0:=by rintro rfl;simp at h
 rw[List.getElem?_take_of_lt (by omega)] at h;exact⟨by omega,h⟩
theorem prev_ins (hN:N∉l) (hne:bf≠N):prevOf (insAt l bf N) bf=some N:=by
 unfold prevOf insAt;split
 ·simp
 ·rename_i h0;have key:∀l:List Int,(l.takeWhile (λk=>decide (k≠bf))++N::l.dropWhile (λk=>decide (k≠bf))).takeWhile (λk=>decide (k≠bf))=l.takeWhile (λk=>decide (k≠bf))++[N]:=by
   intro l;rw[List.takeWhile_append_of_pos (λa ha=>List.all_eq_true.1 List.all_takeWhile a ha)];rw[List.takeWhile_cons,if_pos (by simpa using Ne.symm hne)]
   congr 1
   congr 1
   cases hd:l.dropWhile (λk=>decide (k≠bf)) with
   |nil=>rfl
   |cons a r=>have:=List.head?_dropWhile_not (p:=λk=>decide (k≠bf)) l;rw[hd] at this;rw[List.takeWhile_cons,if_neg (by simpa using this)]
  rw[key];simp
end
section
variable {A B:Ar} {p bf e h:Int} {x:ANode} {b:BS} {t:Int}
theorem reach_new (ok:ArOk A e):∀{m},Reach (A.add x) (A.len+1) m→¬A.has m:=by
 intro m hm
 induction hm with
 |refl=>exact no_new
 |@step q h1 _ ih=>
  intro hq;have e:(A.add x).up q=A.up q:=by unfold Ar.up;rw[nd_add_old hq]
  rw[e] at h1 ih;exact ih (up_has ok hq h1)
theorem put_new (ok:ArOk A e) (h1:x.par=0) (hk:x.kind≠1∧x.kind≠2) (hp:A.has p) (kp:isPar (A.nd p).kind) (k1:(A.nd p).kind=1→x.kind≠4) (hb:bf≠0→A.has bf∧(A.nd bf).par=p) (k:Int):
  ((A.add x).bput (A.len+1) p bf).nd k=if k=A.len+1 then{x with par:=p} else if k=p then{A.nd p with kids:=insAt (A.nd p).kids bf (A.len+1)} else A.nd k:=by
 have np:p≠A.len+1:=has_ne hp;have eN:(A.add x).nd (A.len+1)=x:=by rw[nd_add,if_pos rfl]
 have eO:∀{k},A.has k→(A.add x).nd k=A.nd k:=nd_add_old;have f:Fits (A.add x) p (A.len+1) bf:=⟨has_add.2 (.inl hp),has_add.2 (.inr rfl),λh=>⟨has_add.2 (.inl (hb h).1),has_ne (hb h).1,by rw[eO (hb h).1];exact(hb h).2⟩,by rw[eO hp];exact kp,by rw[eN];exact hk,λh=>reach_new ok h hp⟩;have ec:(A.add x).cut (A.len+1)=A.add x:=by unfold Ar.cut;simp only;rw[eN,if_pos h1]
 unfold Ar.bput;rw[if_neg (by rw[eO hp,eN];exact λh=>k1 h.1 h.2.1)];unfold Ar.tput;rw[if_pos f,ec,nd_ins f.hp f.hn (Ne.symm np),eN,eO hp];split
 ·rfl
 ·rename_i hk;rw[nd_add,if_neg hk]
theorem has_bput {n k:Int}:(A.bput n p bf).has k↔A.has k:=by unfold Ar.has;have:=(len_bput (A:=A) (n:=n) (p:=p) (b:=bf));unfold Ar.len at this;omega
theorem place_cont (o:BOk b):(b.a.nd (b.place t).1).cont=0:=by
 have key:∀h,b.a.has h→(b.a.nd h).kind≠4→(b.a.nd h).cont=0:=λh hh hk=>by refine Decidable.byContradiction λh1=>?_;exact hk ((o.ok.nok h hh).contT h1).1
 unfold BS.place;simp only
 split
 ·exact key _ o.doc.1 (by rw[o.doc.2];decide)
 ·generalize(if b.foster=true∧wds fWords b.a (if t=0 then(topOf b.opn).node else t) then b.fost else(if t=0 then(topOf b.opn).node else t,0))=pb;split
  ·rename_i hc;have hh:b.a.has pb.1:=by refine Decidable.byContradiction λh1=>?_;rw[nd_no h1] at hc;exact hc rfl
   have h2:=o.ok.cont _ hh hc;exact key _ h2.1 (by rw[h2.2.1];decide)
  ·rename_i hc;exact Decidable.not_not.1 hc
def Keep (A B:Ar):Prop:=∀h,A.has h→B.has h∧(B.nd h).kind=(A.nd h).kind∧(B.nd h).space=(A.nd h).space∧(B.nd h).name=(A.nd h).name∧(B.nd h).par=(A.nd h).par∧(B.nd h).cont=(A.nd h).cont
theorem Keep.refl:Keep A A:=λh hh=>⟨hh,rfl,rfl,rfl,rfl,rfl⟩
theorem Keep.trans {C:Ar} (k:Keep A B) (k2:Keep B C):Keep A C:=λh hh=>by obtain⟨a1,a2,a3,a4,a5,a6⟩:=k h hh;obtain⟨b1,b2,b3,b4,b5,b6⟩:=k2 h a1;exact⟨b1,b2.trans a2,b3.trans a3,b4.trans a4,b5.trans a5,b6.trans a6⟩
theorem keep_new (ok:ArOk A e) (h1:x.par=0) (hk:x.kind≠1∧x.kind≠2) (hp:A.has p) (kp:isPar (A.nd p).kind) (k1:(A.nd p).kind=1→x.kind≠4) (hb:bf≠0→A.has bf∧(A.nd bf).par=p):Keep A ((A.add x).bput (A.len+1) p bf):=by
 intro h hh;refine⟨has_bput.2 (has_add.2 (.inl hh)),?_⟩;rw[put_new ok h1 hk hp kp k1 hb,if_neg (has_ne hh)];split
 ·rename_i e;rw[e];exact⟨rfl,rfl,rfl,rfl,rfl⟩
 ·exact⟨rfl,rfl,rfl,rfl,rfl⟩
theorem keep_data {s:Bytes}:Keep A (A.setData h s):=by
 intro k hk;refine⟨has_set.2 hk,?_⟩;unfold Ar.setData;rw[nd_set];split
 ·rename_i e;rw[e.1];exact⟨rfl,rfl,rfl,rfl,rfl⟩
 ·exact⟨rfl,rfl,rfl,rfl,rfl⟩
theorem fost_of (o:BOk b) (hs:Keep b.a B) (hn:b.opn≠[]):({b with a:=B}:BS).fost=b.fost:=by
 have h2:=lastIdx_lt (q:=isOne [wTable]) (l:=b.opn);unfold BS.fost;simp only
 split
 ·rfl
 ·split
  ·rfl
  ·have h3:=o.op _ (itemAt_mem (l:=b.opn) (i:=lastIdx (isOne [wTable]) b.opn) (by omega) (by omega));rw[(hs _ h3.1).2.2.2.2.1]
theorem place_of (o:BOk b) (hs:Keep b.a B):({b with a:=B}:BS).place 0=b.place 0:=by
 unfold BS.place;simp only
 by_cases hn:b.opn=[]
 ·simp only[hn,and_self,if_true]
 ·simp only[hn,and_false,if_false,if_true];have ht:=(o.op _ (topOf_mem hn)).1;generalize(topOf b.opn).node=t' at ht;have hw:wds fWords B t'↔wds fWords b.a t':=by obtain⟨_,a2,a3,a4,_⟩:=hs _ ht;unfold wds;rw[a2,a3,a4]
  have hf:=fost_of o hs hn;have hfo:=fost_ok o hn;have e:(if b.foster=true∧wds fWords B t' then({b with a:=B}:BS).fost else(t',0))=if b.foster=true∧wds fWords b.a t' then b.fost else(t',0):=by
   rw[hf];by_cases h:b.foster=true∧wds fWords b.a t'
   ·rw[if_pos h,if_pos ⟨h.1,hw.2 h.2⟩]
   ·rw[if_neg h,if_neg λh'=>h ⟨h'.1,hw.1 h'.2⟩]
  rw[e];have hp:b.a.has (if b.foster=true∧wds fWords b.a t' then b.fost else(t',0)).1:=by
   split
   ·exact hfo.1
   ·exact ht
  generalize(if b.foster=true∧wds fWords b.a t' then b.fost else(t',0))=pb at hp;rw[(hs _ hp).2.2.2.2.2]
def Txt (A:Ar) (p bf:Int) (w:Bytes):Prop:=∃t d,prevOf (A.nd p).kids bf=some t∧A.has t∧(A.nd t).kind=5∧(A.nd t).data=d++w
theorem ins_notin (ok:ArOk A e) (hp:A.has p):A.len+1∉(A.nd p).kids:=λh=>no_new ((ok.kid p hp _ h).1)
theorem char_first (ok:ArOk A 0) (hp:A.has p) (hk:(A.nd p).kind=4∨(A.nd p).kind=2) (hb:bf≠0→A.has bf∧(A.nd bf).par=p) (s:Bytes):
  Txt (BS.charAt A s p bf) p bf s∧Keep A (BS.charAt A s p bf)∧A.len≤(BS.charAt A s p bf).len∧(BS.charAt A s p bf).len≤A.len+1∧(Txt A p bf []→(BS.charAt A s p bf).len=A.len∧∀w,Txt A p bf w→Txt (BS.charAt A s p bf) p bf (w++s)):=by
 have kp:isPar (A.nd p).kind:=hk.elim (λh=> .inr (.inr h)) λh=> .inr (.inl h);have k1:(A.nd p).kind≠1:=by omega
 have new:Txt ((A.add {kind:=5,doc:=(A.nd p).doc,data:=s}).bput (A.len+1) p bf) p bf s∧Keep A ((A.add {kind:=5,doc:=(A.nd p).doc,data:=s}).bput (A.len+1) p bf):=by
  have hpn:=put_new ok (x:={kind:=5,doc:=(A.nd p).doc,data:=s}) (bf:=bf) rfl ⟨show(5:Int)≠1 by decide,show(5:Int)≠2 by decide⟩ hp kp (λh=>absurd h k1) hb;refine⟨⟨A.len+1,[],?_,has_bput.2 (has_add.2 (.inr rfl)),?_,?_⟩,keep_new ok rfl ⟨show(5:Int)≠1 by decide,show(5:Int)≠2 by decide⟩ hp kp (λh=>absurd h k1) hb⟩
  ·rw[hpn,if_neg (has_ne hp),if_pos rfl];refine prev_ins (ins_notin ok hp) λh=>?_;have h0:bf≠0:=by unfold Ar.len at h;omega
   exact has_ne (hb h0).1 h
  ·rw[hpn,if_pos rfl]
  ·rw[hpn,if_pos rfl];rfl
 have ln:((A.add {kind:=5,doc:=(A.nd p).doc,data:=s}).bput (A.len+1) p bf).len=A.len+1:=by rw[len_bput,len_add]
 unfold BS.charAt;rw[if_pos hk];split
 ·rename_i t ht;have hh:=(ok.kid p hp t (prevOf_mem ht)).1;split
  ·rename_i h5;have np:p≠t:=by rintro rfl;omega
   have e1:(A.setData t ((A.nd t).data++s)).nd t={A.nd t with data:=(A.nd t).data++s}:=by unfold Ar.setData;rw[nd_set,if_pos ⟨rfl,hh⟩]
   have e2:(A.setData t ((A.nd t).data++s)).nd p=A.nd p:=by unfold Ar.setData;rw[nd_set,if_neg λh=>np h.1]
   have e3:(A.setData t ((A.nd t).data++s)).len=A.len:=by unfold Ar.setData;exact len_set
   have key:∀d w,(A.nd t).data=d++w→Txt (A.setData t ((A.nd t).data++s)) p bf (w++s):=λd w hd=>⟨t,d,by rw[e2];exact ht,has_set.2 hh,by rw[e1];exact h5,by rw[e1];simp only;rw[hd,List.append_assoc]⟩;refine⟨?_,keep_data,by omega,by omega,λ_=>⟨e3,?_⟩⟩
   ·exact key (A.nd t).data [] (by simp)
   ·rintro w ⟨t',d,h1,_,_,h4⟩;rw[ht] at h1;cases h1;exact key d w h4
  ·rename_i h5;refine⟨new.1,new.2,by omega,by omega,?_⟩;rintro⟨t',d,h1,_,h3,_⟩;rw[ht] at h1;cases h1;exact absurd h3 h5
 ·rename_i ht;refine⟨new.1,new.2,by omega,by omega,?_⟩;rintro⟨t',d,h1,_⟩;rw[ht] at h1;cases h1
end
end Go.Am
end
section
namespace Go.Am
set_option maxRecDepth 100000
section
variable {A:Ar} {p bf e:Int} {x:ANode}
theorem put_par (h1:x.par=0) (hp:A.has p) (h:(((A.add x).bput (A.len+1) p bf).nd (A.len+1)).par≠0):(((A.add x).bput (A.len+1) p bf).nd (A.len+1)).par=p∧isPar (A.nd p).kind:=by
 have eN:(A.add x).nd (A.len+1)=x:=by rw[nd_add,if_pos rfl]
 have ec:(A.add x).cut (A.len+1)=A.add x:=by unfold Ar.cut;simp only;rw[eN,if_pos h1]
 unfold Ar.bput at h⊢;split at h
 ·rw[eN] at h;exact absurd h1 h
 ·rename_i c1;rw[if_neg c1];unfold Ar.tput at h⊢;split at h
  ·rename_i f;rw[if_pos f,ec,nd_ins f.hp f.hn (has_ne hp).symm,if_pos rfl];have:=f.kp;rw[nd_add_old hp] at this;exact⟨rfl,this⟩
  ·rw[eN] at h;exact absurd h1 h
end
section
variable {b:BS} {nm:Bytes} {at_:List Attr} {p:Int}
theorem mk_arena (h:nm≠wTemplate):(b.mkB nm at_ 1 p).a=b.a.add {kind:=4,doc:=b.docFor p,space:=1,name:=nm,attrs:=once (at_.map (adjAttr 1))}:=by
 have e:BS.nmOf 1 nm=nm:=if_neg (by decide);unfold BS.mkB;rw[if_pos hs1,e];show b.a.elem _ _ _ _=_;unfold Ar.elem;simp only
 rw[if_neg (λh2=>h h2.2.2)]
theorem ins_arena:(b.insB nm at_ 1).a=(b.mkB nm at_ 1 (b.place 0).1).a.bput (b.a.len+1) (b.place 0).1 (b.place 0).2:=by unfold BS.insB;rw[if_pos hs1]
structure Tbl (b:BS) (N P:Int):Prop where
 ok:BOk b
 opn:∃l i,b.opn=l++[i]∧i.node=N∧i.space=1∧i.name=wTable
 hN:b.a.has N
 kids:(b.a.nd N).kids=[]
 par:(b.a.nd N).par=P
 hP:b.a.has P
 kP:(b.a.nd P).kind=2∨(b.a.nd P).kind=4
 cont:(b.a.nd P).cont=0
theorem table_new (o:BOk b) (hp:((b.insB wTable at_ 1).a.nd (b.a.len+1)).par≠0) (hk:((b.insB wTable at_ 1).a.nd ((b.insB wTable at_ 1).a.nd (b.a.len+1)).par).kind≠1) (f:Bool):
  Tbl {b.insB wTable at_ 1 with foster:=f} (b.a.len+1) ((b.insB wTable at_ 1).a.nd (b.a.len+1)).par:=by
 have nt:wTable≠wTemplate:=by decide
 have po:=place_ok o (t:=0) (.inl rfl);have pc:=place_cont o (t:=0);have o1:BOk {b.insB wTable at_ 1 with foster:=f}:=(ins_ok (nm:=wTable) (at_:=at_) (sp:=1) o).of_eq rfl rfl rfl rfl;have hL:Le b.a (b.insB wTable at_ 1).a:=le_insB;have ea:(b.insB wTable at_ 1).a=(b.a.add {kind:=4,doc:=b.docFor (b.place 0).1,space:=1,name:=wTable,attrs:=once (at_.map (adjAttr 1))}).bput (b.a.len+1) (b.place 0).1 (b.place 0).2:=by rw[ins_arena,mk_arena nt]
 obtain⟨h1,h2⟩:=put_par (A:=b.a) (x:={kind:=4,doc:=b.docFor (b.place 0).1,space:=1,name:=wTable,attrs:=once (at_.map (adjAttr 1))}) rfl po.1 (by rw[←ea];exact hp);rw[←ea] at h1;rw[h1,hL.kind _ po.1] at hk;have pn:=put_new o.ok (x:={kind:=4,doc:=b.docFor (b.place 0).1,space:=1,name:=wTable,attrs:=once (at_.map (adjAttr 1))}) (bf:=(b.place 0).2) rfl ⟨show(4:Int)≠1 by decide,show(4:Int)≠2 by decide⟩ po.1 h2 (λh=>absurd h hk) po.2;rw[←ea] at pn;refine⟨o1,⟨b.opn,b.mkI wTable at_ 1,insB_opn1,mkI_node,?_,?_⟩,(new_insB hs1).1,?_,rfl,?_,?_,?_⟩
 ·unfold BS.mkI;rw[if_pos hs1]
 ·unfold BS.mkI;rw[if_pos hs1];exact(if_neg (show¬(1:Int)=2 by decide):BS.nmOf 1 wTable=wTable)
 ·show((b.insB wTable at_ 1).a.nd _).kids=_;rw[pn,if_pos rfl]
 ·rw[h1];exact hL.has _ po.1
 ·show((b.insB wTable at_ 1).a.nd _).kind=2∨((b.insB wTable at_ 1).a.nd _).kind=4;rw[h1,hL.kind _ po.1];rcases h2 with h2|h2|h2
  ·exact absurd h2 hk
  ·exact .inl h2
  ·exact .inr h2
 ·show((b.insB wTable at_ 1).a.nd _).cont=_;rw[h1,pn,if_neg (has_ne po.1),if_pos rfl];exact pc
variable {N P:Int}
theorem Tbl.place (w:Tbl b N P) (hf:b.foster=true):b.place 0=(P,N):=by
 obtain⟨l,i,e,e1,e2,e3⟩:=w.opn;have hn:b.opn≠[]:=by rw[e];simp
 have hi:=w.ok.op i (by rw[e];simp);rw[e1] at hi;have P0:P≠0:=by have:=w.hP.1;omega
 have q1:isOne [wTable] i=true:=by unfold isOne;rw[e2,e3];decide
 have q2:isOne [wTemplate] i=false:=by unfold isOne;rw[e2,e3];decide
 have l1:lastIdx (isOne [wTable]) b.opn=(l.length:Int):=by rw[e,lastIdx_snoc,if_pos q1]
 have l2:lastIdx (isOne [wTemplate]) b.opn=lastIdx (isOne [wTemplate]) l:=by rw[e,lastIdx_snoc,if_neg (by rw[q2];decide)]
 have l3:=(lastIdx_lt (q:=isOne [wTemplate]) (l:=l)).1;have et:(itemAt b.opn (l.length:Int))=i:=by rw[itemAt_lt (n:=l.length) (by rw[e];simp)];simp[e]
 have etop:(topOf b.opn).node=N:=by unfold topOf;rw[show(b.opn.length:Int)-1=(l.length:Int) by rw[e];simp,et,e1]
 have ef:b.fost=(P,N):=by
  unfold BS.fost;simp only
  rw[l1,l2,if_neg (by omega),if_neg (by omega),et,e1,w.par,if_pos P0]
 have hcd:b.foster=true∧wds fWords b.a N:=⟨hf,hi.2.1,by rw[hi.2.2.1,e2],by rw[hi.2.2.2,e3];decide⟩;unfold BS.place;simp only[hn,and_false,if_false,if_true,etop];rw[if_pos hcd,ef];simp only[w.cont,ne_eq,not_true_eq_false,if_false]
structure Ahead (A B:Ar) (P N:Int):Prop where
 par:(B.nd N).par=P
 kids:(B.nd N).kids=[]
 mem:N∈(B.nd P).kids
 t:∃t,prevOf (B.nd P).kids N=some t∧((B.len=A.len∧(B.nd t).kind=5)∨(B.len=A.len+1∧t=A.len+1))
theorem Tbl.nP (w:Tbl b N P):N≠P:=by rintro rfl;have:=par_ne w.ok.ok w.hN (by rw[w.par];have:=w.hN.1;omega);exact this w.par
theorem Tbl.mem (w:Tbl b N P):N∈(b.a.nd P).kids:=by
 have:=(w.ok.ok.par N w.hN (by rw[w.par];have:=w.hP.1;omega)).2
 rwa [w.par] at this
theorem Tbl.put (w:Tbl b N P) {x:ANode} (h1:x.par=0) (hk:x.kind≠1∧x.kind≠2):Ahead b.a ((b.a.add x).bput (b.a.len+1) P N) P N:=by
 have hk1:(b.a.nd P).kind≠1:=by have:=w.kP;omega
 have pn:=put_new w.ok.ok (x:=x) (bf:=N) h1 hk w.hP (w.kP.elim (λh=> .inr (.inl h)) λh=> .inr (.inr h)) (λh=>absurd h hk1) λ_=>⟨w.hN,w.par⟩;have eN:=pn N;rw[if_neg (has_ne w.hN),if_neg w.nP] at eN;have eP:=pn P;rw[if_neg (has_ne w.hP),if_pos rfl] at eP;refine⟨by rw[eN];exact w.par,by rw[eN];exact w.kids,?_,b.a.len+1,?_,.inr ⟨by rw[len_bput,len_add],rfl⟩⟩
 ·rw[eP];exact mem_insAt.2 (.inr w.mem)
 ·rw[eP];exact prev_ins (ins_notin w.ok.ok w.hP) (has_ne w.hN)
theorem Tbl.comment (w:Tbl b N P) (hf:b.foster=true) (s:Bytes):Ahead b.a (b.comment s 0).a P N:=by unfold BS.comment;rw[if_pos rfl,w.place hf];show Ahead b.a (BS.commentAt b.a s P N) P N;unfold BS.commentAt;rw[if_pos (w.kP.elim (λh=> .inr (.inl h)) λh=> .inr (.inr h))];exact w.put rfl ⟨show(6:Int)≠1 by decide,show(6:Int)≠2 by decide⟩
theorem Tbl.ins (w:Tbl b N P) (hf:b.foster=true) (h:nm≠wTemplate):Ahead b.a (b.insB nm at_ 1).a P N:=by rw[ins_arena,mk_arena h,w.place hf];exact w.put rfl ⟨show(4:Int)≠1 by decide,show(4:Int)≠2 by decide⟩
theorem Tbl.char (w:Tbl b N P) (hf:b.foster=true) (r:Int):Ahead b.a (b.char r).a P N:=by
 unfold BS.char;rw[w.place hf];show Ahead b.a (BS.charAt b.a (utf8 r) P N) P N;unfold BS.charAt;rw[if_pos (w.kP.elim .inr .inl)];split
 ·rename_i t ht;split
  ·rename_i h5;have hh:=(w.ok.ok.kid P w.hP t (prevOf_mem ht)).1;have nN:N≠t:=by rintro rfl;obtain⟨l,i,e,e1,_⟩:=w.opn;have hi:=w.ok.op i (by rw[e];simp);rw[e1,h5] at hi;exact absurd hi.2.1 (by decide)
   have nP:P≠t:=by rintro rfl;have:=w.kP;omega
   have e0:∀k,k≠t→(b.a.setData t ((b.a.nd t).data++utf8 r)).nd k=b.a.nd k:=λk hk=>by unfold Ar.setData;rw[nd_set,if_neg λh=>hk h.1]
   refine⟨by rw[e0 _ nN];exact w.par,by rw[e0 _ nN];exact w.kids,by rw[e0 _ nP];exact w.mem,t,by rw[e0 _ nP];exact ht,.inl ⟨by unfold Ar.setData;exact len_set,?_⟩⟩;unfold Ar.setData;rw[nd_set,if_pos ⟨rfl,hh⟩];exact h5
  ·exact w.put rfl ⟨show(5:Int)≠1 by decide,show(5:Int)≠2 by decide⟩
 ·exact w.put rfl ⟨show(5:Int)≠1 by decide,show(5:Int)≠2 by decide⟩
end
end Go.Am
end
