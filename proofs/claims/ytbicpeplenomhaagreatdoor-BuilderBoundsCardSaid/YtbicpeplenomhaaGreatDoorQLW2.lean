/- Parts of the proof. No law is claimed here. -/
import Derived.Test.YtbicpeplenomhaaGreatDoorQ27
set_option linter.unusedVariables false
set_option linter.unusedSimpArgs false
namespace Go.Am
set_option maxRecDepth 100000
section
variable {b c d:BS} {k j:Nat} {nm:Bytes} {at_:List Attr} {p:Int}
structure Few (b c:BS) (k:Nat):Prop where
 lo:b.a.len≤c.a.len
 hi:c.a.len≤b.a.len+k
 o:(c.opn.length:Int)≤b.opn.length+(c.a.len-b.a.len)
def NoT (b:BS):Prop:=∀e∈b.act,e.name≠wTemplate
theorem Few.refl:Few b b 0:=⟨Int.le_refl _,by omega,by omega⟩
theorem Few.trans (f:Few b c k) (g:Few c d j):Few b d (k+j):=⟨by have:=f.lo;have:=g.lo;omega,by have:=f.hi;have:=g.hi;omega,by have:=f.o;have:=g.o;omega⟩
theorem Few.le (f:Few b c k) (h:k≤j):Few b c j:=⟨f.lo,by have:=f.hi;omega,f.o⟩
theorem Few.sub {l:List Item} {m:List FCor} (ho:l.length≤b.opn.length):Few b {b with opn:=l,act:=m} k:=⟨Int.le_refl _,by simp only;omega,by simp only;omega⟩
theorem NoT.getD (h:NoT b) (n:Nat):(b.act.getD n FCor.zero).name≠wTemplate:=by
 rw[List.getD_eq_getElem?_getD];rcases Nat.lt_or_ge n b.act.length with hn|hn
 ·rw[List.getElem?_eq_getElem hn];exact h _ (List.getElem_mem hn)
 ·rw[List.getElem?_eq_none hn];simp[FCor.zero]
theorem len_mk (h:nm≠wTemplate):(b.mkB nm at_ 1 p).a.len=b.a.len+1:=by
 have e:BS.nmOf 1 nm=nm:=if_neg (by decide);unfold BS.mkB;rw[if_pos hs1,e];show(b.a.elem _ _ _ _).len=_;unfold Ar.elem;simp only
 rw[if_neg (λh2=>h h2.2.2)];exact len_add
theorem opn_mk:(b.mkB nm at_ 1 p).opn=b.opn:=by unfold BS.mkB;rw[if_pos hs1]
theorem act_mk:(b.mkB nm at_ 1 p).act=b.act:=by unfold BS.mkB;rw[if_pos hs1]
theorem len_moveKids {n:Int}:∀{l:List Int} {A:Ar},(BS.moveKids A n l).len=A.len
 |[],A=>rfl
 |x::l,A=>(len_moveKids (n:=n) (l:=l) (A:=A.tput n x 0)).trans len_tput
theorem drop_len {α:Type} {l:List α} {n:Nat}:(dropAt l n).length≤l.length:=dropAt_sub.length_le
theorem betw1_few (hT:NoT b) {blk anc:Int} {far i:Nat} {l:Int} {m:Nat}:Few b (BS.betw1 blk anc far i b l m).1 (if i+3<far then 0 else 1)∧NoT (BS.betw1 blk anc far i b l m).1:=by
 unfold BS.betw1;simp only
 split
 ·exact⟨Few.sub drop_len,hT⟩
 ·split
  ·exact⟨Few.sub drop_len,λe he=>hT e (dropAt_sub.subset he)⟩
  ·have hen:=hT.getD (entC (b.opn.getD i Item.zero).node b.act).toNat;generalize b.act.getD (entC (b.opn.getD i Item.zero).node b.act).toNat FCor.zero=en at*;have hl:((b.mkB en.name en.attrs 1 anc).a.tput (b.mkI en.name en.attrs 1).node l 0).len=b.a.len+1:=len_tput.trans (len_mk hen);refine⟨⟨?_,?_,?_⟩,λe he=>?_⟩
   ·simp only;omega
   ·simp only;omega
   ·simp only;rw[List.length_set,opn_mk];omega
   ·rcases List.mem_or_eq_of_mem_set he with h|rfl
    ·rw[act_mk] at h;exact hT e h
    ·exact hen
theorem betw_few {blk anc:Int} {far k:Nat}:∀{c:Nat} {s:BS×Int×Nat},NoT s.1→Few s.1 (BS.betw blk anc far k c s).1 (if c=0 then 0 else k+c+4 -far)∧NoT (BS.betw blk anc far k c s).1
 |0,s,h=>⟨.refl,h⟩
 |c+1,s,h=>by obtain⟨f1,h1⟩:=betw1_few h (blk:=blk) (anc:=anc) (far:=far) (i:=k+(c+1)) (l:=s.2.1) (m:=s.2.2);obtain⟨f2,h2⟩:=betw_few (blk:=blk) (anc:=anc) (far:=far) (k:=k) (c:=c) (s:=BS.betw1 blk anc far (k+(c+1)) s.1 s.2.1 s.2.2) h1;refine⟨(f1.trans f2).le ?_,h2⟩;rw[if_neg (Nat.succ_ne_zero c)];split<;>split<;>omega
theorem roundE_few {fe:FCor} {blk anc:Int} {s:BS×Int×Nat} (hT:NoT s.1) (hfe:fe.name≠wTemplate):Few s.1 (BS.roundE fe blk anc s) 1∧NoT (BS.roundE fe blk anc s):=by
 unfold BS.roundE;simp only
 generalize hpb:s.1.place anc=pb;generalize hb2:({s.1 with a:=s.1.a.bput s.2.1 pb.1 pb.2}:BS)=b2;have ha2:b2.a.len=s.1.a.len:=by rw[←hb2];exact len_bput
 have ho2:b2.opn=s.1.opn:=by rw[←hb2]
 have hc2:b2.act=s.1.act:=by rw[←hb2]
 have hl:=len_mk (b:=b2) (at_:=fe.attrs) (p:=blk) hfe;have hop:(b2.mkB fe.name fe.attrs 1 blk).opn=b2.opn:=opn_mk;have hac:(b2.mkB fe.name fe.attrs 1 blk).act=b2.act:=act_mk;generalize b2.mkB fe.name fe.attrs 1 blk=b3 at*;generalize b2.mkI fe.name fe.attrs 1=n at*;have hl5:((BS.moveKids b3.a n.node (b3.a.nd blk).kids).tput blk n.node 0).len=s.1.a.len+1:=by rw[len_tput,len_moveKids,hl,ha2]
 refine⟨⟨?_,?_,?_⟩,λe he=>?_⟩
 ·simp only;omega
 ·simp only;omega
 ·simp only
  rw[hl5];have h1:=(removed_sub (n:=fe.node) (l:=b3.opn)).length_le;rw[hop,ho2] at h1⊢;simp only[List.length_append,List.length_cons,List.length_take,List.length_drop];omega
 ·simp only[List.mem_append,List.mem_cons] at he;have key:∀e,e∈dropAt b3.act (entC fe.node b3.act).toNat→e.name≠wTemplate:=λe h=>by have:=dropAt_sub.subset h;rw[hac,hc2] at this;exact hT e this
  rcases he with h|rfl|h
  ·exact key e (List.mem_of_mem_take h)
  ·exact hfe
  ·exact key e (List.mem_of_mem_drop h)
theorem anyEnd_few:Few b (b.anyEnd nm) 0∧(b.anyEnd nm).act=b.act:=by
 unfold BS.anyEnd;split
 ·split
  ·exact⟨Few.sub (popNode_sub.trans pops_sub).length_le,rfl⟩
  ·exact⟨.refl,rfl⟩
 ·exact⟨.refl,rfl⟩
theorem round_few (hT:NoT b):Few b (b.round nm).2 4∧NoT (b.round nm).2:=by
 unfold BS.round;simp only
 split
 ·have h:=anyEnd_few (b:=b) (nm:=nm);refine⟨h.1.le (Nat.zero_le _),λe he=>?_⟩;simp only at he;rw[h.2] at he;exact hT e he
 ·split
  ·exact⟨Few.sub (Nat.le_refl _),λe he=>hT e (dropAt_sub.subset he)⟩
  ·split
   ·exact⟨Few.refl.le (Nat.zero_le _),hT⟩
   ·split
    ·exact⟨Few.sub popNode_sub.length_le,λe he=>hT e (dropAt_sub.subset he)⟩
    ·have hfe:=hT.getD (findC nm b.act).toNat;generalize b.act.getD (findC nm b.act).toNat FCor.zero=fe at*;generalize(furthest fe.node b.opn).toNat=far at*;generalize(lastIdx (isNode fe.node) b.opn).toNat=k at*;generalize(b.opn.getD far Item.zero).node=blk at*;obtain⟨f1,h1⟩:=betw_few (s:=(b,blk,(findC nm b.act).toNat)) (blk:=blk) (anc:=(b.opn.getD (k-1) Item.zero).node) (far:=far) (k:=k) (c:=far-1 -k) hT;obtain⟨f2,h2⟩:=roundE_few (blk:=blk) (anc:=(b.opn.getD (k-1) Item.zero).node) h1 hfe;refine⟨(f1.trans f2).le ?_,h2⟩;split<;>omega
theorem rounds_few:∀{n:Nat} {b:BS},NoT b→Few b (BS.rounds n b nm) (4*n)
 |0,b,h=> .refl
 |n+1,b,h=>by
  obtain⟨f,h1⟩:=round_few (nm:=nm) h;unfold BS.rounds;simp only
  split
  ·exact(f.trans (rounds_few h1)).le (by omega)
  ·exact f.le (by omega)
theorem agency_few (h:NoT b):Few b (b.agency nm) 32:=by
 unfold BS.agency;split
 ·unfold BS.pop;split
  ·exact Few.refl.le (Nat.zero_le _)
  ·exact Few.sub (List.take_sublist _ _).length_le
 ·exact rounds_few h
end
end Go.Am
