/- Parts of the proof. No law is claimed here. -/
import Derived.Test.YtbicpeplenomhaaGreatDoorR20
set_option linter.unusedVariables false
set_option linter.unusedSimpArgs false
namespace Go.Am
set_option maxRecDepth 100000
section
variable {α:Type} {p q:α→Bool} {l:List α}
theorem lastIdx_eq {n:Nat} (hn:n<l.length) (h1:q l[n]=true) (h2:∀m (hm:m<l.length),n<m→q l[m]=false):lastIdx q l=(n:Int):=by
 rcases lastIdx_spec (q:=q) (l:=l) with⟨_,h⟩|⟨k,hk,e,h3,h4⟩
 ·rw[h _ (List.getElem_mem hn)] at h1;cases h1
 ·rcases Nat.lt_trichotomy k n with h|h|h
  ·rw[h4 n hn h] at h1;cases h1
  ·rw[e,h]
  ·rw[h2 k hk h] at h3;cases h3
theorem lastIdx_ge {n:Nat} (hn:n<l.length) (h1:q l[n]=true):(n:Int)≤lastIdx q l:=by
 rcases lastIdx_spec (q:=q) (l:=l) with⟨_,h⟩|⟨k,hk,e,h3,h4⟩
 ·rw[h _ (List.getElem_mem hn)] at h1;cases h1
 ·by_cases h:k<n
  ·rw[h4 n hn h] at h1;cases h1
  ·omega
theorem lastIdx_pre {m:Nat} (h0:0≤lastIdx q l) (hm:lastIdx q l<(m:Int)):lastIdx q (l.take m)=lastIdx q l:=by
 rcases lastIdx_spec (q:=q) (l:=l) with⟨e,_⟩|⟨k,hk,e,h3,h4⟩
 ·omega
 ·rw[e] at hm⊢;have hk2:k<(l.take m).length:=by rw[List.length_take];omega
  refine lastIdx_eq hk2 (by rw[List.getElem_take];exact h3) λj hj hkj=>?_;rw[List.getElem_take];exact h4 j (by rw[List.length_take] at hj;omega) hkj
theorem lastIdx_imp (h:∀a,q a=true→p a=true):lastIdx q l≤lastIdx p l:=by
 rcases lastIdx_spec (q:=q) (l:=l) with⟨e,_⟩|⟨k,hk,e,h3,h4⟩
 ·have:=(lastIdx_lt (q:=p) (l:=l)).2;omega
 ·rw[e];exact lastIdx_ge hk (h _ h3)
theorem find_rev {i:α} (h:l.reverse.find? p=some i):∃a c,l=a++i::c∧p i=true∧∀x∈c,p x=false:=by
 obtain⟨h1,as,bs,e,h2⟩:=List.find?_eq_some_iff_append.1 h;refine⟨bs.reverse,as.reverse,?_,h1,λx hx=>?_⟩
 ·have:=congrArg List.reverse e;rw[List.reverse_reverse] at this;rw[this];simp
 ·have:=h2 x (List.mem_reverse.1 hx);simpa using this
theorem lastIdx_split {a c:List α} {i:α} (h1:q i=true) (h2:∀x∈c,q x=false):lastIdx q (a++i::c)=(a.length:Int):=by refine lastIdx_eq (n:=a.length) (by simp) (by simpa using h1) λm hm hlt=>?_;rw[List.getElem_append_right (by omega)];obtain⟨k,e⟩:∃k,m-a.length=k+1:=⟨m-a.length-1,by omega⟩;simp only[e,List.getElem_cons_succ];exact h2 _ (List.getElem_mem _)
end
section
variable {l:List Item} {p q:Item→Bool} {b:BS} {nm:Bytes} {at_:List Attr}
theorem cut_cut {i j:Int} (h:i≤j):cutL (cutL l j) i=cutL l i:=by unfold cutL;rw[List.take_take];congr 1;omega
theorem pops_two (hpq:∀a,q a=true→p a=true) (h:0≤lastIdx q l):pops never q (pops p never l)=cutL l (lastIdx q l):=by
 have h1:=lastIdx_imp (l:=l) hpq;rw[pops_clear,pops_until];have e:lastIdx q (cutL l (lastIdx p l+1))=lastIdx q l:=by unfold cutL;exact lastIdx_pre h (by omega)
 rw[e];exact cut_cut (by omega)
theorem endT_none (h:lastIdx (isOne [wTemplate]) b.opn<0):b.endTemplate=b:=by unfold BS.endTemplate;rw[if_pos h]
theorem isT_unthorough {a:Item} (h:isOne [wTemplate] a=true):unthorough a=true:=by
 unfold isOne at h;have h:=of_decide_eq_true h;have e:a.name=wTemplate:=by simpa using h.2
 unfold unthorough;rw[e];refine decide_eq_true (.inr ?_);decide
theorem endT_some (h:0≤lastIdx (isOne [wTemplate]) b.opn):b.endTemplate.opn=cutL b.opn (lastIdx (isOne [wTemplate]) b.opn)∧b.endTemplate.tm=b.tm.dropLast∧b.endTemplate.act=clearC b.act:=by unfold BS.endTemplate;rw[if_neg (by omega)];exact⟨pops_two (λ_=>isT_unthorough) h,rfl,rfl⟩
theorem anyEnd_law (o:BOk b) (nm:Bytes):b.anyEnd nm=b∨(0≤lastIdx (isOne [nm]) b.opn∧b.anyEnd nm={b with opn:=cutL b.opn (lastIdx (isOne [nm]) b.opn)}):=by
 unfold BS.anyEnd;split
 ·rename_i i hi;obtain⟨a,c,e,h1,h2⟩:=find_rev hi;split
  ·rename_i h3;right;have e1:lastIdx (isOne [nm]) b.opn=(a.length:Int):=by rw[e];exact lastIdx_split h3 λx hx=>by have:=h2 x hx;rw[Bool.or_eq_false_iff] at this;exact this.1
   have hu:unimplied nm i=true:=by
    unfold isOne at h3;have h3:=of_decide_eq_true h3;have e4:i.name=nm:=by simpa using h3.2
    unfold unimplied;exact decide_eq_true (.inr (.inr e4))
   have hal:a.length<b.opn.length:=by rw[e];simp
   have hai:b.opn[a.length]=i:=by simp[e]
   have e2:(a.length:Int)≤lastIdx (unimplied nm) b.opn:=lastIdx_ge hal (by rw[hai];exact hu);have e3:lastIdx (isNode i.node) b.opn=(a.length:Int):=by
    refine lastIdx_eq hal (by rw[hai];simp[isNode]) λm hm hlt=>?_;unfold isNode;refine decide_eq_false λh4=>?_;have hnd:=o.opN;have h5:(b.opn.map Item.node)[m]'(by simpa using hm)=(b.opn.map Item.node)[a.length]'(by simpa using hal):=by simp only[List.getElem_map,hai];exact h4
    have:=(List.getElem_inj hnd).1 h5;omega
   refine⟨by omega,?_⟩
   congr 1
   rw[pops_clear,popNode_cut];have e4:lastIdx (isNode i.node) (cutL b.opn (lastIdx (unimplied nm) b.opn+1))=lastIdx (isNode i.node) b.opn:=by unfold cutL;exact lastIdx_pre (by omega) (by omega)
   rw[e4,e3,if_neg (by omega),e1];exact cut_cut (by omega)
  ·exact .inl rfl
 ·exact .inl rfl
theorem cut_len {i:Int} (h1:i<l.length) (h0:0≤i):(cutL l i).length=max 1 i.toNat:=by unfold cutL;rw[List.length_take];omega
theorem insB_opn1:(b.insB nm at_ 1).opn=b.opn++[b.mkI nm at_ 1]:=by unfold BS.insB BS.mkB;rw[if_pos hs1];simp only;rw[if_pos hs1]
theorem mkI_node:(b.mkI nm at_ 1).node=b.a.len+1:=by unfold BS.mkI;rw[if_pos hs1]
theorem rebF_nodes:∀{l:List FCor} {b:BS},(BS.rebF l b).2.opn.map Item.node=b.opn.map Item.node++(BS.rebF l b).1.map FCor.node
 |[],b=>by simp[BS.rebF]
 |e::l,b=>by
  rw[BS.rebF];simp only
  rw[rebF_nodes,insB_opn1];simp[mkI_node]
theorem rebF_nil:BS.rebF [] b=([],b):=rfl
theorem rebK_le1:b.rebK≤b.act.length:=by unfold BS.rebK;have:=(lastIdx_lt (q:=b.settled) (l:=b.act)).1;omega
def Rest (b:BS):Prop:=∀e,b.act.getLast?=some e→e.node=0∨e.node∈b.opn.map Item.node
theorem settled_iff {e:FCor}:b.settled e=true↔e.node=0∨e.node∈b.opn.map Item.node:=by
 unfold BS.settled;rw[decide_eq_true_iff];refine or_congr Iff.rfl ⟨λh=>?_,λh=>?_⟩
 ·rcases lastIdx_spec (q:=isNode e.node) (l:=b.opn) with⟨h1,_⟩|⟨n,hn,_,h2,_⟩
  ·omega
  ·exact List.mem_map.2 ⟨_,List.getElem_mem hn,of_decide_eq_true h2⟩
 ·obtain⟨i,hi,e1⟩:=List.mem_map.1 h;obtain⟨n,hn,rfl⟩:=List.getElem_of_mem hi;have:=lastIdx_ge (q:=isNode e.node) hn (decide_eq_true e1);omega
theorem rebuild_rest (r:Rest b):b.rebuild=b:=by
 have hk:b.rebK=b.act.length:=by
  by_cases h0:b.act=[]
  ·have:=rebK_le1 (b:=b);rw[h0] at this⊢;simpa using this
  ·have hp:b.act.length-1<b.act.length:=by have:=List.length_pos_iff.2 h0;omega
   have h1:b.settled b.act[b.act.length-1]=true:=settled_iff.2 (r _ (by rw[List.getLast?_eq_getElem?,List.getElem?_eq_getElem hp]));have h2:=lastIdx_ge (q:=b.settled) hp h1;have h3:=rebK_le1 (b:=b);unfold BS.rebK at h3⊢;omega
 unfold BS.rebuild;simp only
 rw[hk,List.drop_length,rebF_nil,List.take_length];simp
structure RebL (b:BS):Prop where
 len:b.rebuild.act.length=b.act.length
 names:b.rebuild.act.map FCor.name=b.act.map FCor.name
 rest:Rest b.rebuild
 opn:∃c,b.rebuild.opn.length=b.opn.length+c∧c+(lastIdx mrkC b.rebuild.act+1).toNat≤b.act.length∧(c=0→b.rebuild.a=b.a)
theorem rebuild_law (o:BOk b):RebL b:=by
 have r:=rebF_ok (l:=b.act.drop b.rebK) o;have hk:=rebK_le1 (b:=b);have hn:=rebF_nodes (l:=b.act.drop b.rebK) (b:=b);have ea:b.rebuild.act=b.act.take b.rebK++(BS.rebF (b.act.drop b.rebK) b).1:=rfl;have eo:b.rebuild.opn=(BS.rebF (b.act.drop b.rebK) b).2.opn:=rfl;have eaa:b.rebuild.a=(BS.rebF (b.act.drop b.rebK) b).2.a:=rfl;have hl:=r.len;rw[List.length_drop] at hl;have nz:∀e∈(BS.rebF (b.act.drop b.rebK) b).1,e.node≠0:=λe he=>by have:=(r.nodes e he).1.1;omega
 refine⟨?_,?_,?_,(BS.rebF (b.act.drop b.rebK) b).1.length,?_,?_,?_⟩
 ·rw[ea,List.length_append,List.length_take,hl];omega
 ·rw[ea,List.map_append,r.names,←List.map_append,List.take_append_drop]
 ·intro e he;rw[eo,hn];rw[ea] at he;by_cases h0:(BS.rebF (b.act.drop b.rebK) b).1=[]
  ·rw[h0] at he hl⊢;simp only[List.append_nil,List.map_nil] at he⊢;simp only[List.length_nil] at hl;have e1:b.rebK=b.act.length:=by omega
   rw[e1,List.take_length] at he;have hp:b.act≠[]:=by intro h;rw[h] at he;simp at he
   have hp1:=List.length_pos_iff.2 hp;have h2:lastIdx b.settled b.act=((b.act.length-1:Nat):Int):=by unfold BS.rebK at e1;omega
   rcases lastIdx_spec (q:=b.settled) (l:=b.act) with⟨h3,_⟩|⟨n,hn,h3,h4,_⟩
   ·omega
   ·have e3:n=b.act.length-1:=by omega
    subst e3;rw[List.getLast?_eq_getElem?,List.getElem?_eq_getElem hn] at he
    cases he
    exact settled_iff.1 h4
  ·rw[List.getLast?_append,List.getLast?_eq_some_getLast h0,Option.some_or,←List.getLast?_eq_some_getLast h0] at he;exact .inr (List.mem_append.2 (.inr (List.mem_map_of_mem (List.mem_of_getLast? he))))
 ·have:=congrArg List.length hn;rw[eo];simpa using this
 ·rw[ea];rcases lastIdx_spec (q:=mrkC) (l:=b.act.take b.rebK++(BS.rebF (b.act.drop b.rebK) b).1) with⟨h3,_⟩|⟨n,hn,h3,h4,_⟩
  ·rw[h3];omega
  ·rw[h3];have hm:=of_decide_eq_true h4;by_cases h5:n<b.rebK
   ·omega
   ·exfalso;have hlt:(b.act.take b.rebK).length≤n:=by rw[List.length_take];omega
    rw[List.getElem_append_right hlt] at hm;exact nz _ (List.getElem_mem _) hm
 ·intro h;have h0:b.act.drop b.rebK=[]:=List.eq_nil_of_length_eq_zero (by rw[←r.len,h]);rw[eaa,h0];rfl
end
end Go.Am
