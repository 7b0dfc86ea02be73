/- Lemmas -/
import Derived.Test.YtjboelmdplaenaaGreatDoorQ12
import Derived.Test.YtjboelmdplaenaaGreatDoorQ10
import Derived.Test.YtjboelmdplaenaaGreatDoorQ13
set_option linter.unusedVariables false
set_option linter.unusedSimpArgs false
namespace Go.Am
open Go Go.RowKit
section
variable {γ γ':Gh} {h:AHeap} {w w':World}
noncomputable def cx0:Ctx:={cx with glob:=λ_=>none}
theorem Inv.rel (hi:Inv γ h w):Rel cx0 γ w γ (λ_=>0) [] h {tmps:=#[],defers:=[]} w:=
 ⟨hi,⟨rfl,λs=>trivial⟩,Acc.refl γ w,rfl,λg cs hg=>by cases hg⟩
theorem setRow_twice (w:World) (g:Nat) (a b:Array Value) (us:Array Value) (e:TypeId) (fr:Nat×Nat) (hg:w.heap[g]?=some (.cells us e fr)):(w.setRow g a).setRow g b=w.setRow g b:=by
 unfold World.setRow
 congr 1
 grind
theorem grown_world (w:World) (cv:List Value) (k n:Nat) (x:Value) (Z1 Z2:Array Value) (e:TypeId) (hl:cv.length=n) (hk:k<n) (hz:Z1.size=n+1 -k):
  let w1:=(((w.alloc (.cells ((cv.take k).toArray++Z1++Z2) e)).drew.setCells w.heap.size k [x]).drew).setCells w.heap.size (k+1) (cv.drop k)
  w1.heap=w.heap.push (.cells (cv.take k++[x]++cv.drop k++Z2.toList).toArray e (0,0))∧w1.os=w.os∧w1.tape=w.tape∧w1.output=w.output:=by
 intro w1;have hN:(cv.take k).length=k:=by simp;omega
 have hs1:((cv.take k).toArray++Z1++Z2).size=n+1+Z2.size:=by simp only[Array.size_append,List.size_toArray,hN,hz];omega
 have hw1:(w.alloc (.cells ((cv.take k).toArray++Z1++Z2) e)).drew.heap[w.heap.size]?=some (.cells ((cv.take k).toArray++Z1++Z2) e (0,0)):=heap_alloc_new w _;have e1:=setCells_row [x] k _ _ hw1 (by rw[hs1];simp;omega);have hA:(((cv.take k).toArray++Z1++Z2).toList.take k++[x]++((cv.take k).toArray++Z1++Z2).toList.drop (k+[x].length))=cv.take k++[x]++(Z1.toList.drop 1++Z2.toList):=by
  simp only[Array.toList_append,List.append_assoc,List.length_cons,List.length_nil]
  congr 1
  ·exact List.take_left' hN
  ·congr 1
   rw[←List.drop_drop,List.drop_left' hN,List.drop_append];have:1 -Z1.toList.length=0:=by simp;omega
   simp only[Nat.zero_add] at*;rw[this,List.drop_zero]
 rw[hA] at e1;have hw2:((w.alloc (.cells ((cv.take k).toArray++Z1++Z2) e)).drew.setRow w.heap.size (cv.take k++[x]++(Z1.toList.drop 1++Z2.toList)).toArray).drew.heap[w.heap.size]?=some (.cells (cv.take k++[x]++(Z1.toList.drop 1++Z2.toList)).toArray e (0,0)):=setRow_heap _ _ _ _ _ _ hw1;have hl1:(Z1.toList.drop 1).length=n-k:=by simp[hz];omega
 have e2:=setCells_row (cv.drop k) (k+1) _ _ hw2 (by simp[hz];omega);have hB:((cv.take k++[x]++(Z1.toList.drop 1++Z2.toList)).toArray.toList.take (k+1)++cv.drop k++(cv.take k++[x]++(Z1.toList.drop 1++Z2.toList)).toArray.toList.drop (k+1+(cv.drop k).length))=cv.take k++[x]++cv.drop k++Z2.toList:=by
  have h1:(cv.take k++[x]).length=k+1:=by simp;omega
  simp only[List.toList_toArray];rw[List.take_left' h1,←List.drop_drop,List.drop_left' h1]
  congr 1
  exact List.drop_left' (by rw[hl1];simp;omega)
 rw[hB] at e2;have hfin:w1=((w.alloc (.cells ((cv.take k).toArray++Z1++Z2) e)).drew.setRow w.heap.size (cv.take k++[x]++(Z1.toList.drop 1++Z2.toList)).toArray).drew.setRow w.heap.size (cv.take k++[x]++cv.drop k++Z2.toList).toArray:=by show((((w.alloc _).drew.setCells _ _ _).drew).setCells _ _ _)=_;rw[e1,e2]
 rw[hfin];refine⟨?_,rfl,rfl,rfl⟩;apply Array.ext_getElem?;intro i;by_cases hi:i=w.heap.size
 ·subst hi;rw[setRow_heap _ _ _ _ _ _ hw2];simp
 ·rw[setRow_other _ _ _ _ hi];show((w.alloc _).drew.setRow _ _).heap[i]?=_;rw[setRow_other _ _ _ _ hi];show(w.heap.push _)[i]?=_;rw[Array.getElem?_push,Array.getElem?_push,if_neg hi,if_neg hi]
theorem InsOk_170:InsOk cx 102:=by
 refine⟨⟨_,_,Proofs.Tryz.func102,rfl,rfl⟩,?_⟩;intro γ h w s sv i x h' r g vcap us0 e0 hi hs hp hg0 hx0 hgo hvc hus0;have hd:Below w.heap.size w w.drew:=(Below.refl _ _).drew;have hvs:∀(j:Nat) (v:Value),[Value.int .i64 x][j]?=some v→w.cell? ⟨g,0+j,none⟩=some v:=λj v hj=>by
  cases j with
  |zero=>cases hj;rw[cell_of_row w _ _ us0 e0 (0,0) hg0];exact hx0
  |succ j=>simp at hj
 have h1v:∀v∈[Value.int .i64 x],v.oneCell'=true:=λv hv=>by simp at hv;subst hv;rfl
 have hgl:g<w.heap.size:=(Array.getElem?_eq_some_iff.1 hg0).1;unfold gInsert at hp;split at hp
 ·rename_i i' x' heq
  cases heq
  split at hp
  ·rename_i h0;subst h0
   cases hp
   have hse:sv= .slice none 0 0:=hs;subst hse;have hc:=Proofs.Any2.slices_Insert_int_end_grow Proofs.Tryz.laysNm221 none 0 0 g 0 1 vcap [] [.int .i64 x] w (by omega) (Nat.le_refl _) (by omega) (by decide) rfl rfl (λ_=>rfl) (λ_ e=>by cases e) hvs h1v;refine hc.mono λe w' he=>?_;obtain⟨rfl,rfl⟩:=he;have hge:=grownCap_ge w (0+1) 0 3;have hsz:(([]++[Value.int .i64 x]).toArray++Builtin.zeroCells (Value.int .i64 0).cells (grownCap w (0+1) 0 3 -(0+1))).size=grownCap w (0+1) 0 3:=by simp only[Array.size_append,size_zeroCells];show 1+(grownCap w 1 0 3 -1)*1=_;have:grownCap w (0+1) 0 3=grownCap w 1 0 3:=rfl;omega
   obtain⟨hi2,ha2⟩:=alloc_object (hi.of_below hd).1 (.cells (([]++[Value.int .i64 x]).toArray++Builtin.zeroCells (Value.int .i64 0).cells (grownCap w (0+1) 0 3 -(0+1))) 3 (0,0)) (.cells [.int .i64 x]) (some _)
    (.inl ⟨_,_,_,_,rfl,rfl,.inl rfl,⟨_,[],by simp,rfl,rfl⟩,by simp[Value.oneCell'],rfl⟩)
   exact⟨_,hi2,(hi.of_below hd).2.trans ha2,⟨w.heap.size,grownCap w (0+1) 0 3,by simp[Gh.object],rfl,hge,⟨Nat.succ_pos 0,grownCap_le_maxLen _ _ _ _ (by decide)⟩,by simp only[Gh.object];rw[if_pos (show w.heap.size=w.drew.heap.size from rfl),hsz,Nat.mul_one];exact congrArg some (Nat.zero_add _).symm⟩⟩
  ·cases hp
 ·rename_i id n i' x' heq
  cases heq
  split at hp
  ·rename_i cs hcs;split at hp
   ·rename_i hcond;obtain⟨c1,c2,c3,c4⟩:=hcond
    cases hp
    obtain⟨gb,cap,hm,rfl,hnc,⟨_,hcm⟩,hsz⟩:=(show VRel γ _ _ from hs);obtain⟨us,e,fr,p1,pf,p2,p3⟩:=hi.cells id cs hcs gb hm;obtain⟨⟨us',e',fr',q1,q2⟩,_⟩:=hi.sz gb _ hsz;rw[p1] at q1;cases q1;obtain⟨gb',hm',hgo'⟩:=hi.obj id _ hcs (by simp);rw[hm] at hm';cases hm';have hne:g≠gb:=λhe=>hgo id (by rw[he];exact hgo');have hul:cs.length≤us.size:=by have:=p2.length;simp at this;omega
    have hcap:us.size=cap:=by rw[q2];omega
    obtain⟨k,hk⟩:∃k:Nat,i=k:=⟨i.toNat,by omega⟩;subst hk;simp only[Int.toNat_natCast] at*;generalize hcv:us.toList.take n=cv;have hcvl:cv.length=n:=by rw[←hcv];simp;omega
    have hcells:∀(j:Nat) (v:Value),cv[j]?=some v→w.cell? ⟨gb,0+j,none⟩=some v:=λj v hj=>by
     rw[cell_of_row w _ _ us e fr p1,Nat.zero_add];rw[←hcv,List.getElem?_take] at hj;split at hj
     ·simpa using hj
     ·cases hj
    have hcv1:∀v∈cv,v.oneCell'=true:=λv hv=>p3 v (by
     rw[←hcv] at hv;have:us.toList.take n=(us.toList.take cs.length).take n:=by rw[List.take_take,Nat.min_eq_left c3]
     rw[this] at hv;exact List.mem_of_mem_take hv)
    have hcr:VRelV γ (cs.take n) cv:=by have:=p2.take n;rw[List.take_take,Nat.min_eq_left c3,hcv] at this;exact this
    have hfin:VRelV γ (cs.take k++[.int .i64 x]++(cs.take n).drop k) (cv.take k++[.int .i64 x]++cv.drop k):=by
     have e1:cs.take k=(cs.take n).take k:=by rw[List.take_take,Nat.min_eq_left c2]
     rw[e1];exact((hcr.take k).append (show VRelV γ [.int .i64 x] [Value.int .i64 x] from⟨_,[],rfl,rfl,rfl⟩)).append (hcr.drop k)
    have hfin1:∀v∈cv.take k++[Value.int .i64 x]++cv.drop k,v.oneCell'=true:=λv hv=>by
     simp only[List.append_assoc,List.mem_append,List.mem_singleton] at hv;rcases hv with hv|rfl|hv
     ·exact hcv1 v (List.mem_of_mem_take hv)
     ·rfl
     ·exact hcv1 v (List.mem_of_mem_drop hv)
    have hfl:(cv.take k++[Value.int .i64 x]++cv.drop k).length=n+1:=by simp;omega
    have hfl':(cv.take k).length+[Value.int .i64 x].length+(cv.drop k).length=n+1:=by rw[←hfl];simp only[List.length_append]
    have hal:(cs.take k++[AVal.int .i64 x]++(cs.take n).drop k).length=n+1:=by rw[←hfl,hfin.length]
    have hsp:∀j,j<n+1→n+1≤cap→(w.cell? ⟨gb,0+j,none⟩).isSome=true:=λj hj hc=>by rw[cell_of_row w _ _ us e fr p1,Array.getElem?_eq_getElem (by omega)];rfl
    have hfz:∀j,j<n+1→n+1≤cap→w.frozen? ⟨gb,0+j,none⟩=false:=λj hj hc=>by
     simp only[World.frozen?,p1];rcases pf with rfl|hfr
     ·simp
     ·simp;omega
    have inplace:∀(w1:World),n+1≤cap→w1=(w.drew).setRow gb (cv.take k++[Value.int .i64 x]++cv.drop k++us.toList.drop (n+1)).toArray∨w1=w.setRow gb (cv.take k++[Value.int .i64 x]++cv.drop k++us.toList.drop (n+1)).toArray→
      ∃γ',Inv γ' (h.set id .dead++[.cells (cs.take k++[.int .i64 x]++(cs.take n).drop k)]) w1∧Acc γ w γ' w1∧VRel γ' (.msl h.length 0 (n+1) 1) (.slice (some ⟨gb,0,none⟩) (n+1) cap):=by
     intro w1 hroom hw1;have hsz2:(cv.take k++[Value.int .i64 x]++cv.drop k++us.toList.drop (n+1)).toArray.size=us.size:=by rw[List.size_toArray,List.length_append,hfl,List.length_drop,Array.length_toList];omega
     have htk:(cv.take k++[Value.int .i64 x]++cv.drop k++us.toList.drop (n+1)).toArray.toList.take (cs.take k++[AVal.int .i64 x]++(cs.take n).drop k).length=cv.take k++[Value.int .i64 x]++cv.drop k:=by rw[hal,←hfl];exact List.take_left
     have go:∀wd:World,Inv γ h wd→Acc γ w γ wd→wd.heap[gb]?=some (.cells us e fr)→∃γ',Inv γ' (h.set id .dead++[.cells (cs.take k++[.int .i64 x]++(cs.take n).drop k)]) (wd.setRow gb (cv.take k++[Value.int .i64 x]++cv.drop k++us.toList.drop (n+1)).toArray)∧Acc γ w γ' (wd.setRow gb (cv.take k++[Value.int .i64 x]++cv.drop k++us.toList.drop (n+1)).toArray)∧VRel γ' (.msl h.length 0 (n+1) 1) (.slice (some ⟨gb,0,none⟩) (n+1) cap):=by
      intro wd hid had hp;obtain⟨γ2,hle,hm2,hr2,hsz3⟩:=hid.rel.regrow hcs hm hp (by rw[hsz,q2]) (cv.take k++[Value.int .i64 x]++cv.drop k++us.toList.drop (n+1)).toArray (cs.take k++[.int .i64 x]++(cs.take n).drop k) hsz2
       (by
        rcases pf with rfl|pf
        ·exact .inl rfl
        ·exact .inr (by rw[hsz2];exact pf)) (by rw[htk];exact hfin) (by rw[htk];exact hfin1)
      exact⟨γ2,hr2.inv,had.trans hr2.acc,gb,cap,hm2,rfl,hroom,⟨Nat.succ_pos 0,hcm⟩,by rw[hsz3,q2]⟩
     rcases hw1 with rfl|rfl
     ·obtain⟨hid,had⟩:=hi.of_below hd;exact go w.drew hid had p1
     ·exact go w hi (Acc.refl _ _) p1
    have anew:∀(w1:World) (c:Nat) (d:List Value),n+1≤c→c≤maxLen→d.length=c-(n+1)→w1.heap=(w.heap.push (.cells (cv.take k++[Value.int .i64 x]++cv.drop k++d).toArray 3 (0,0)))→w1.os=w.os→w1.tape=w.tape→w1.output=w.output→
      ∃γ',Inv γ' (h.set id .dead++[.cells (cs.take k++[.int .i64 x]++(cs.take n).drop k)]) w1∧Acc γ w γ' w1∧VRel γ' (.msl h.length 0 (n+1) 1) (.slice (some ⟨w.heap.size,0,none⟩) (n+1) c):=by
     intro w1 c d hc hcl hdl hh ho ht hou;have hsz2:(cv.take k++[Value.int .i64 x]++cv.drop k++d).toArray.size=c:=by simp only[List.size_toArray,List.length_append,hfl',hdl];omega
     have htk:(cv.take k++[Value.int .i64 x]++cv.drop k++d).toArray.toList.take (cs.take k++[AVal.int .i64 x]++(cs.take n).drop k).length=cv.take k++[Value.int .i64 x]++cv.drop k:=by rw[hal,←hfl];exact List.take_left
     obtain⟨γ2,hle,hm2,hr2,hsz3⟩:=(hi.rel.kill id).newObj (cv.take k++[Value.int .i64 x]++cv.drop k++d).toArray 3 (0,0) (cs.take k++[.int .i64 x]++(cs.take n).drop k) (.inl rfl) (by rw[htk];exact hfin) (by rw[htk];exact hfin1);have hb:Below (w.alloc (.cells (cv.take k++[Value.int .i64 x]++cv.drop k++d).toArray 3 (0,0))).heap.size (w.alloc (.cells (cv.take k++[Value.int .i64 x]++cv.drop k++d).toArray 3 (0,0))) w1:=⟨ho,ht,hou,by rw[hh];exact Nat.le_refl _,λk' _=>by rw[hh];rfl⟩;obtain⟨hi3,ha3⟩:=hr2.inv.of_below hb;have hlen:(h.set id .dead).length=h.length:=by simp
     rw[hlen] at hm2;exact⟨γ2,hi3,hr2.acc.trans ha3,w.heap.size,c,hm2,rfl,hc,⟨Nat.succ_pos 0,hcl⟩,by rw[hsz3,hsz2];simp⟩
    by_cases hroom:n+1≤cap
    ·by_cases hkn:k=n
     ·subst hkn;have hc:=Proofs.Any2.slices_Insert_int_end_room Proofs.Tryz.laysNm221 gb 0 k cap g 0 1 vcap [.int .i64 x] w (by omega) hroom hcm rfl (λj hj=>by rw[show 0+k+j=0+(k+j) by omega];exact hsp _ (by omega) hroom) (λj hj=>by rw[show 0+k+j=0+(k+j) by omega];exact hfz _ (by omega) hroom) hvs h1v;refine hc.mono λe w' he=>?_;obtain⟨rfl,rfl⟩:=he;refine inplace _ hroom (.inr ?_);rw[setCells_row _ _ us w p1 (by simp;omega),Nat.zero_add,hcv]
      congr 2
      rw[List.drop_of_length_le (by omega:cv.length≤k),List.take_of_length_le (by omega),List.append_nil];rfl
     ·have hlt:k<n:=by omega
      have hc:=Proofs.Any2.slices_Insert_int_shift Proofs.Tryz.laysNm221 gb 0 n cap k g 0 1 vcap cv [.int .i64 x] w hlt (by omega) hroom hcm hne hcvl rfl hcells (λj hj=>hsp j hj hroom) (λj hj=>hfz j hj hroom) hvs hcv1 h1v
       e0 e us0.size us.size (by simp[World.shape?,hg0]) (by simp[World.shape?,p1]) (by omega) (by rw[World.frozen?,hg0];rfl) (by rw[World.frozen?,hg0];rfl)
      refine hc.mono λe w' he=>?_;obtain⟨rfl,rfl⟩:=he;refine inplace _ hroom (.inl ?_);have p1':w.drew.heap[gb]?=some (.cells us _ fr):=p1;rw[setCells_row (cv.drop k) (0+(k+1)) us w.drew p1' (by simp;omega),setCells_row [.int .i64 x] (0+k) _ _ (setRow_heap _ gb us _ _ _ p1') (by simp;omega),setRow_twice _ _ _ _ us _ _ p1']
      congr 2
      apply List.ext_getElem?;intro j;have e1:(us.toList.take (0+(k+1))++cv.drop k++us.toList.drop (0+(k+1)+(cv.drop k).length)).length=us.size:=by simp;omega
      have e2:∀q,us.toList.take q=(us.toList.take n).take q++(us.toList.drop n).take (q-n):=λq=>by
       conv=>lhs;rw[←List.take_append_drop n us.toList]
       rw[List.take_append];simp only[List.length_take,Array.length_toList];rw[Nat.min_eq_left (by omega:n≤us.size)]
      simp only[Nat.zero_add];have hk1:(us.toList.take (k+1)++cv.drop k++us.toList.drop (k+1+(cv.drop k).length)).take k=cv.take k:=by rw[List.append_assoc,List.take_append_of_le_length (by simp;omega),List.take_take,Nat.min_eq_left (Nat.le_succ k),e2 k,hcv,Nat.sub_eq_zero_of_le c2,List.take_zero,List.append_nil]
      have hk2:(us.toList.take (k+1)++cv.drop k++us.toList.drop (k+1+(cv.drop k).length)).drop (k+1)=cv.drop k++us.toList.drop (n+1):=by
       have:(us.toList.take (k+1)).length=k+1:=by simp;omega
       rw[List.append_assoc,List.drop_left' this]
       congr 2
       simp;omega
      simp only[List.length_cons,List.length_nil,Nat.zero_add];rw[hk1,hk2,List.append_assoc,List.append_assoc,List.append_assoc]
    ·by_cases hkn:k=n
     ·subst hkn;have hc:=Proofs.Any2.slices_Insert_int_end_grow Proofs.Tryz.laysNm221 (some ⟨gb,0,none⟩) k cap g 0 1 vcap cv [.int .i64 x] w (by omega) hnc (by omega) (by simpa[maxBytes] using c4) hcvl rfl (λe=>by cases e) (λa ea j v hj=>by cases ea;have:=hcells j v hj;rw[Nat.zero_add] at this;rw[show(Addr.mk gb 0 none).add j=⟨gb,j,none⟩ by unfold Addr.add;split<;>simp_all];exact this) hvs h1v;refine hc.mono λe w' he=>?_;obtain⟨rfl,rfl⟩:=he;have hge:=grownCap_ge w (k+1) cap 3;refine anew _ (grownCap w (k+1) cap 3) (Builtin.zeroCells (Value.int .i64 0).cells (grownCap w (k+1) cap 3 -(k+1))).toList hge (grownCap_le_maxLen _ _ _ _ (by simp only[maxBytes] at c4;simp only[maxLen];omega)) (by rw[Array.length_toList,size_zeroCells];exact Nat.mul_one _) ?_ rfl rfl rfl;rw[List.drop_of_length_le (by omega:cv.length≤k),List.take_of_length_le (by omega),List.append_nil];show w.heap.push _=w.heap.push _
      congr 2
      apply Array.ext';simp;rfl
     ·have hlt:k<n:=by omega
      have hc:=Proofs.Any2.slices_Insert_int_grow Proofs.Tryz.laysNm221 gb 0 n cap k g 0 1 vcap cv [.int .i64 x] w hlt (by omega) hnc (by omega) (by simpa[maxBytes] using c4) hcvl rfl hcells hvs hcv1 h1v;refine hc.mono λe w' he=>?_;obtain⟨rfl,rfl⟩:=he;have hge:=grownCap_ge w (n+1) cap 3;have hzs:∀m,(Builtin.zeroCells (Value.int .i64 0).cells m).size=m:=λm=>by rw[size_zeroCells];exact Nat.mul_one _
      refine anew _ (grownCap w (n+1) cap 3) (Builtin.zeroCells (Value.int .i64 0).cells (grownCap w (n+1) cap 3 -(n+1))).toList hge (grownCap_le_maxLen _ _ _ _ (by simp only[maxBytes] at c4;simp only[maxLen];omega)) (by rw[Array.length_toList,hzs]) ?_ ?_ ?_ ?_
      all_goals
       obtain⟨q1,q2,q3,q4⟩:=grown_world w cv k n (.int .i64 x) (Builtin.zeroCells (Value.int .i64 0).cells (n+1 -k)) (Builtin.zeroCells (Value.int .i64 0).cells (grownCap w (n+1) cap 3 -(n+1))) 3 hcvl hlt (hzs _)
       first|exact q1|exact q2|exact q3|exact q4
   ·cases hp
  ·cases hp
 ·cases hp
end
end Go.Am
