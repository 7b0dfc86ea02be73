/- Parts of the proof. No law is claimed here. -/
import Derived.Test.YtbicpeplenomhaaGreatDoorR26
import Derived.Test.YtbicpeplenomhaaGreatDoorR28
import Derived.Test.YtbicpeplenomhaaGreatDoorRLW5
set_option linter.unusedVariables false
set_option linter.unusedSimpArgs false
namespace Go.Am
open Go
set_option maxRecDepth 100000
section
variable {h:AHeap} {v:AVal} {l:List Attr} {b:BS}
theorem f410 (hv:IsAttrs l v) (hb:l.length≤1000000000) {y:Attr} (hg:givenC l y) (h:AHeap):Ret cx 18 [v,.agg y.row] h tt h:=by
 obtain⟨hs,a,x,c,e,hn,hval,hpre⟩:=hg;have lm:=IsSl.lenM hv;have hal:a.length<l.length:=by rw[e];simp
 rw[ret_iff,t18_eq,t18,Attr.row];simp only[amS];refine W_loop_st (λn:Nat=>[ff,.int .i64 (n:Int)]) (λn h1=>n≤a.length∧h1=h) (λn=>l.length-n) 0 rfl ⟨Nat.zero_le _,rfl⟩ ?_;rintro n h1 ⟨hn1,rfl⟩;have e1:=IsSl.eaddrM (k:= .i64) hv (show n<l.length by omega);rw[Attr.row] at e1;have i1:(n:Int)<(l.length:Int):=by omega
 rcases Nat.lt_or_ge n a.length with hlt|hge
 ·have hne:¬l[n].name=y.name:=by
   have:l[n]=a[n]:=by simp only[e,List.getElem_append_left hlt]
   rw[this];exact hpre _ (List.getElem_mem hlt)
  simp only[amS,bxS,lm,i1,e1,hne,pe_inc (show n<9223372036854775807 by omega)];exact LoopPost.next (n+1) rfl ⟨hlt,rfl⟩ (by omega)
 ·have en:l[n]=x:=by
   have:n=a.length:=by omega
   subst this;simp[e]
  rw[en] at e1;simp only[amS,bxS,lm,i1,e1,hn,hval,hs,eq_self,decide_true]
theorem AttrsAt.hi (hv:AttrsAt h v l) {k:Nat} (hk:k≤l.length):∃u,peval (.slc 3 false false true) [v,.int .i64 (k:Int)]=some u∧AttrsIn h u (l.take k):=by
 rcases hv with⟨rfl,rfl⟩|⟨id,rfl,hc,_⟩
 ·have:k=0:=by simpa using hk
  subst this;exact⟨.slnil,rfl,⟨rfl,λj hj=>by simp at hj⟩⟩
 ·by_cases h0:l.length=0
  ·have:k=0:=by omega
   subst this;rw[h0];exact⟨_,rfl,⟨rfl,λj hj=>by simp at hj⟩⟩
  ·refine⟨_,msl_hi3 (by omega) hk,by rw[List.length_take,Nat.min_eq_left hk];rfl,λj hj=>⟨.ptr (some (id,j*3)),eaddr_msl (by rw[List.length_take] at hj;omega),?_⟩⟩;rw[List.length_take] at hj;have ha:AttrsAt h (.msl id 0 l.length 3) l:= .inr ⟨id,rfl,hc,(List.getElem?_eq_some_iff.1 hc).1⟩;obtain⟨p,e1,e2⟩:=ha.in_.at_ j (by omega);have e3:=eaddr_msl (k:= .i64) (id:=id) (z:=3) (n:=l.length) (i:=j) (by omega);rw[e3] at e1
   cases e1
   rw[e2,List.getElem_take]
theorem AttrsAt.nameAt (hv:AttrsAt h v l) {k:Nat} (hk:k<l.length):∃id o,peval (.eaddr 3) [v,.int .i64 (k:Int)]=some (.ptr (some (id,o)))∧hload h none (.ptr (some (id,o+1)))=some (.str l[k].name):=by
 rcases hv with⟨rfl,rfl⟩|⟨id,rfl,hc,_⟩
 ·simp at hk
 ·refine⟨id,k*3,eaddr_msl hk,?_⟩;have hg:(l.map Attr.row)[k]?=some l[k].row:=by rw[List.getElem?_map,List.getElem?_eq_getElem hk];rfl
  simp only[hload,hc,partOf_none];exact flat_get (rowA l) (by decide) hg
theorem ins_attrs {nm:Bytes} {at_:List Attr} (hn:nm≠wTemplate):((b.insB nm at_ 1).a.nd (b.a.len+1)).attrs=once (at_.map (adjAttr 1)):=by rw[ins_arena,mk_arena hn,same_bput.at_,nd_add,if_pos rfl]
end
set_option maxHeartbeats 4000000 in
theorem ev_merges {old more:List Attr} {va vb:AVal} (hv:IsAttrs old va) (hv2:IsAttrs more vb):Ev cx 3 [va,vb] [] λr _=>r= .bool true:=by
 have hmx:maxBytes=140737488355328:=rfl;have r1:=f9 hv [];have r2:=f9 hv2 [];unfold Ev;rw[t3_eq,t3];by_cases c1:attrsOkB old
 ·rw[decide_eq_true c1] at r1;by_cases c2:attrsOkB more
  ·rw[decide_eq_true c2] at r2;have b1:=c1.1;have b2:=c2.1;obtain⟨h1,bi,a,o,c,t,G,r3,w1,hc,x1⟩:=f10b [] ⟨false,0,[],[],false,false⟩ (av:= .slnil) .nil small0;have fin1:Fin (BStart.b ⟨false,0,[],[],false,false⟩) (99+1):=BStart.fin _;generalize BStart.b ⟨false,0,[],[],false,false⟩=b at*;rw[srow] at r3;obtain⟨u1,e1,hu1⟩:=IsSl.appNil (b:=40) hv (by omega);obtain⟨u2,e2,hu2⟩:=IsSl.appNil (b:=40) hv2 (by omega);have hu1c:u1.cells=[u1]:=IsSl.cells hu1;have hu2c:u2.cells=[u2]:=IsSl.cells hu2;have tk:∀u:AVal,TokR wHtm u [I 2,S wHtm,ff,S [],ff,S [],ff,ff,u,ff,S [],.int .i32 0]:=λu=>⟨I 2,ff,S [],ff,S [],ff,ff,ff,S [],.int .i32 0,rfl⟩;obtain⟨h2,o2,G2,r4,w2,x2⟩:=f11b (m:=0) w1 fin1.ok (fin1.sz.rm.le (by omega)) (tk u1) hu1 c1.small (by decide);have fin2:Fin (b.insB wHtm old 1) (98+1):=fin1.ins (by decide) c1.small;have hat:=ins_attrs (b:=b) (nm:=wHtm) (at_:=old) (by decide);have hnew:=new_insB (b:=b) (nm:=wHtm) (at_:=old) hs1;generalize b.insB wHtm old 1=b3 at*;generalize b.a.len+1=N at*;have l2:=w2.l0;obtain⟨n2,m2,p2,wa2⟩:=w2.w.pa;obtain⟨q1,t1,r5,hq1⟩:=f97w (x:=N) wa2 fin2.sz.rm.lim (fin2.sz.rm.lim.kids fin2.ok.ok N);rw[if_pos hnew.1] at r5;have w3:=w2.app (u:=t1);have own2:∀i,own bi G2 i→i<h2.length:=λi hi=>w2.own_lt hi;obtain⟨h4,G4,r6,w4,x4⟩:=f60b (m:=0) w3 fin2.ok (fin2.sz.rm.le (by omega)) (tk u2) hu2 c2.small N;have fin4:Fin (b3.merge more N) 98:=fin2.op (qK 12 [] more [] 0 N) (qK_ok (by decide) (by decide) (by decide) c2.small) (by unfold doB;rfl);have hm:((b3.merge more N).a.has N)∧((b3.merge more N).a.nd N).attrs=once (once (old.map (adjAttr 1))++BS.plain more):=by unfold BS.merge;rw[if_pos hnew.2];refine⟨has_set.2 hnew.1,?_⟩;show((b3.a.setAttrs N _).nd N).attrs=_;unfold Ar.setAttrs;rw[nd_set,if_pos ⟨rfl,hnew.1⟩,hat]
   generalize b3.merge more N=b4 at*;have l4:=w4.l0;obtain⟨n4,m4,p4,wa4⟩:=w4.w.pa;obtain⟨q2,t4,r7,hq2⟩:=f97w (x:=N) wa4 fin4.sz.rm.lim (fin4.sz.rm.lim.kids fin4.ok.ok N);rw[if_pos hm.1] at r7;have hq1':NRow (h4++t4) h2.length (b3.a.nd N) q1:=(hq1.frame (λi g1 g2=>x4.old i g2 λhf=>by have:=own2 i hf;omega) x4.len).app;obtain⟨K1,V1,rfl,hK1,hV1,hU1⟩:=hq1';obtain⟨K2,V2,rfl,hK2,hV2,hU2⟩:=hq2;rw[hat] at hV1;rw[hm.2] at hV2;have hn1:=once_keys (old.map (adjAttr 1));have hs1':allS (once (old.map (adjAttr 1))):=once_space adj_space;have hlx:(once (old.map (adjAttr 1))).length≤1000:=by have:=once_le (l:=old.map (adjAttr 1));rw[List.length_map] at this;omega
   generalize once (old.map (adjAttr 1))=xs at*;have T:=merged_take (ma:=more) hn1;have hly:(once (xs++BS.plain more)).length≤2000:=by have h1:=once_le (l:=xs++BS.plain more);rw[List.length_append,show(BS.plain more).length=more.length from List.length_map ..] at h1;omega
   have many:∀x∈more,manyN x.name (once (xs++BS.plain more))=1:=λx hx=>merged_many hn1 hs1' hx;have giv:∀(k:Nat) (y:Attr),xs.length≤k→(once (xs++BS.plain more))[k]?=some y→givenC more y:=λk y hk hy=>merged_given hn1 hk hy;generalize once (xs++BS.plain more)=ys at*;have K1c:K1.cells=[K1]:=IsSl.cells hK1;have K2c:K2.cells=[K2]:=IsSl.cells hK2;have V1c:=hV1.cells;have V2c:=hV2.cells;have i1:=hV1.in_;have i2:=hV2.in_;obtain⟨u3,e3,i3⟩:=hV2.hi T.1;rw[T.2] at i3;have r8:=f285c i1 i3 (by omega);have lq:=IsSl.lenM hv2;generalize hH:h4++t4=H at*;simp only[amS,Nat.reduceLeDiff,↓reduceIte,fillAt,bxS,r1.call,r2.call,r3.call,e1,hu1c,r4.call,l2,r5.call,K1c,V1c,e2,hu2c,r6.call,l4,r7.call,K2c,V2c,ne_eq,eq_self,i1.len,i2.len,show¬(ys.length:Int)<(xs.length:Int) by omega,e3,r8.call];refine W_loop_fin (i:=0) (λn:Nat=>[ff,.int .i64 (n:Int)]) (λn h3=>n≤more.length∧h3=H) (λn=>more.length-n) (λn h3=>h3=H) 0 rfl ⟨Nat.zero_le _,rfl⟩ ?_ ?_
   ·rintro n h3 ⟨hn,rfl⟩;rcases Nat.lt_or_ge n more.length with hlt|hge
    ·have ea:=IsSl.eaddrM (k:= .i64) hv2 hlt;rw[Attr.row] at ea;simp only[amS,bxS,lq,show(n:Int)<(more.length:Int) by omega];refine W_loop_fin (i:=2) (λk:Nat=>[.int .i64 ((manyN more[n].name (ys.take k):Nat):Int),.int .i64 (k:Int)]) (λk h4=>k≤ys.length∧h4=h3) (λk=>ys.length-k) (λk h4=>h4=h3∧k=ys.length) 0 rfl ⟨Nat.zero_le _,rfl⟩ ?_ ?_
     ·rintro k h4 ⟨hk,rfl⟩;rcases Nat.lt_or_ge k ys.length with hkl|hkg
      ·obtain⟨p,a1,a2⟩:=i2.at_ k hkl;have ec:manyN more[n].name (ys.take (k+1))=manyN more[n].name (ys.take k)+if ys[k].name=more[n].name then 1 else 0:=by unfold manyN;rw[List.take_succ_eq_append_getElem hkl,List.countP_append,List.countP_singleton];simp
       have hle:manyN more[n].name (ys.take k)≤k:=by unfold manyN;have:=List.countP_le_length (p:=λa:Attr=>decide (a.name=more[n].name)) (l:=ys.take k);rw[List.length_take] at this;omega
       have hinc:=pe_inc (show manyN more[n].name (ys.take k)<9223372036854775807 by omega);obtain⟨id,p2,g1,g2⟩:=hV2.nameAt hkl;by_cases he:ys[k].name=more[n].name
       ·rw[if_pos he] at ec;rw[he] at g2;simp only[amS,bxS,i2.len,show(k:Int)<(ys.length:Int) by omega,g1,g2,ea,eq_self,hinc,pe_inc (show k<9223372036854775807 by omega)];exact .next (k+1) (by rw[ec]) ⟨hkl,rfl⟩ (by omega)
       ·rw[if_neg he,Nat.add_zero] at ec;simp only[amS,bxS,i2.len,show(k:Int)<(ys.length:Int) by omega,g1,g2,ea,he,pe_inc (show k<9223372036854775807 by omega)];exact .next (k+1) (by rw[ec];rfl) ⟨hkl,rfl⟩ (by omega)
      ·simp only[amS,bxS,i2.len,show¬(k:Int)<(ys.length:Int) by omega];exact .fin k rfl ⟨rfl,by omega⟩
     ·rintro k h4 ⟨rfl,rfl⟩;rw[List.take_length,many _ (List.getElem_mem hlt)];simp only[amS,↓reduceIte,bxS,ne_eq,eq_self,Int.natCast_one,pe_inc (show n<9223372036854775807 by omega)];exact .next (n+1) rfl ⟨hlt,rfl⟩ (by omega)
    ·simp only[amS,bxS,lq,show¬(n:Int)<(more.length:Int) by omega];exact .fin n rfl rfl
   ·rintro n h3 rfl;simp only[amS,↓reduceIte,i1.len];refine W_loop_fin (i:=4) (λk:Nat=>[ff,.int .i64 (k:Int)]) (λk h4=>xs.length≤k∧k≤ys.length∧h4=h3) (λk=>ys.length-k) (λk h4=>h4=h3) xs.length rfl ⟨Nat.le_refl _,T.1,rfl⟩ ?_ ?_
    ·rintro k h4 ⟨hk0,hk,rfl⟩;rcases Nat.lt_or_ge k ys.length with hkl|hkg
     ·obtain⟨p,a1,a2⟩:=i2.at_ k hkl;have r9:=f410 hv2 (by omega) (giv k ys[k] hk0 (List.getElem?_eq_getElem hkl)) h4;simp only[amS,bxS,i2.len,show(k:Int)<(ys.length:Int) by omega,a1,a2,r9.call,pe_inc (show k<9223372036854775807 by omega)];exact .next (k+1) rfl ⟨by omega,hkl,rfl⟩ (by omega)
     ·simp only[amS,bxS,i2.len,show¬(k:Int)<(ys.length:Int) by omega];exact .fin k rfl rfl
    ·rintro k h4 rfl;simp only[amS,↓reduceIte,known_iff];exact⟨_,rfl,rfl⟩
  ·rw[decide_eq_false c2] at r2;simp only[amS,bxS,r1.call,r2.call,known_iff];exact⟨_,rfl,rfl⟩
 ·rw[decide_eq_false c1] at r1;simp only[amS,bxS,r1.call,known_iff];exact⟨_,rfl,rfl⟩
theorem hasV_attrs {v:AVal} (h:HasV (.sl tAttr) v):∃l:List Attr,IsAttrs l v:=by have h:Has (.sl tAttr) [v]:=h;obtain⟨l,h1,_,_⟩:=has_sl has_attr h;exact⟨l,h1⟩
theorem all_merges:∀l,HasArgs [.sl tAttr,.sl tAttr] l→Ev cx 3 l [] λr _=>r= .bool true:=by rintro _ ⟨a,_,rfl,ha,b,_,rfl,hb,rfl⟩;obtain⟨l,hl⟩:=hasV_attrs ha;obtain⟨m,hm⟩:=hasV_attrs hb;exact ev_merges hl hm
end Go.Am
