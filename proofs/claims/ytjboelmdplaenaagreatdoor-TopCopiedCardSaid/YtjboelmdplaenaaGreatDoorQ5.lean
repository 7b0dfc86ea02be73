/- Lemmas -/
import Derived.Test.YtjboelmdplaenaaGreatDoorQ4
import Derived.Deep.AppendSrc
import Derived.Great.BuildSlice
import Derived.Laws.IdiomStrings
set_option linter.unusedVariables false
set_option linter.unusedSimpArgs false
section
namespace Go.Am
open Go
section
variable {C:Ctx} {γ0 γ γ':Gh} {w0 w w':World} {β:Nat→Nat} {σ:Env} {h:AHeap} {a:Act} {fid:FuncId} {ops:List Oper}
theorem run_value' {P:Program} {s:Sem Value} {v:Value} (hs:s.run P w= .ok v w'):(do pure (Next.value (←s)):Sem Next).run P w= .ok (.value v) w':=by simp[hs]
theorem flatten_get {α:Type} {z:Nat}:∀{rows:List (List α)},(∀r∈rows,r.length=z)→∀{i:Nat} {r:List α},rows[i]?=some r→∀{j:Nat} {x:α},r[j]?=some x→rows.flatten[i*z+j]?=some x
 |[],_,i,r,hi,_,_,_=>by simp at hi
 |q::rows,hl,0,r,hi,j,x,hj=>by grind
 |q::rows,hl,i+1,r,hi,j,x,hj=>by
  have:=flatten_get (rows:=rows) (λr hr=>hl r (by simp[hr])) hi hj
  grind
theorem flatten_length {α:Type} {z:Nat}:∀{rows:List (List α)},(∀r∈rows,r.length=z)→rows.flatten.length=rows.length*z
 |[],_=>by simp
 |q::rows,hl=>by have hq:=hl q (by simp);simp[hq,flatten_length (rows:=rows) (λr hr=>hl r (by simp[hr])),Nat.add_mul,Nat.add_comm]
theorem rows_claimed {rows:List (List AVal)} {us:List Value} {z b o:Nat} (hl:∀r∈rows,r.length=z) (hv:VRelV γ rows.flatten us) (hi:∀(j:Nat) (u:Value),us[j]?=some u→γ.imm b (o+j)=some u):VRelR γ rows z b o:=by
 refine VRelR.of_get λi r hr=>⟨hl r (List.mem_of_getElem? hr),VRelM.of_get λj x hj=>?_⟩;obtain⟨u,hu,hx⟩:=hv.get (flatten_get hl hr hj)
 grind
theorem Rel.drew (hr:Rel C γ0 w0 γ β σ h a w):Rel C γ0 w0 γ β σ h a w.drew:=hr.world (hr.inv.same rfl) (Acc.drew γ w)
theorem Env.at_length (σ:Env):σ.at σ.length= .undef:=by simp[Env.at,List.getD]
theorem Rel.putOwn (hr:Rel C γ0 w0 γ β σ h a w) {x:AVal} {v:Value} (hv:VRel γ x v) (ho:OwnT γ w0.heap.size w σ.length none v x) (d:Option Nat):∃γ',Rel C γ0 w0 γ' β (σ.put d (.own x)) h (a.put d v) w:=by
 cases d with
 |none=>exact⟨γ,hr⟩
 |some d=>
  rcases ho with ho|⟨g,n,cap,us,e,z,rows,h1,h2,h3,h4,h5⟩
  ·exact⟨γ,hr.put λs _=>⟨hv,.inl ho⟩⟩
  ·have hr1:=hr.retag (s':=d) (c':=none) h3 h4 (λ_ u=>by rw[Env.at_length];simp) (λo ho=>by cases ho);exact⟨_,hr1.put λs hs=>by
    cases hs
    exact⟨VRel.mono (le_retag _ _ _) _ _ hv,.inr ⟨g,n,cap,us,e,z,rows,h1,h2,by simp[Gh.retag],h4,h5⟩⟩⟩
theorem Rel.newSlice (hr:Rel C γ0 w0 γ β σ h a w) (us:Array Value) (e:TypeId) {z n cap:Nat} {rows:List (List AVal)} (hz:0<z) (hn:rows.length=n) (hl:∀r∈rows,r.length=z) (hus:us.size=cap*z) (hc:n≤cap) (hm:cap≤maxLen)
  (hv:VRelV γ rows.flatten (us.toList.take (n*z))) (h1:∀u∈us.toList.take (n*z),u.oneCell'=true):
  ∃γ',γ.le γ'∧Rel C γ0 w0 γ' β σ h a (w.alloc (.cells us e))∧VRel γ' (.sl z rows) (.slice (some ⟨w.heap.size,0,none⟩) n cap)∧OwnT γ' w0.heap.size (w.alloc (.cells us e)) σ.length none (.slice (some ⟨w.heap.size,0,none⟩) n cap) (.sl z rows):=by
 obtain⟨hi,ha⟩:=alloc_claim hr.inv us e (0,0) (n*z) (some (.tail σ.length none (n*z))) (λo u ho hu=>h1 u (List.mem_of_getElem? (by rw[List.getElem?_take_of_lt ho];simpa using hu))) (.inr (.inl ⟨_,_,rfl⟩));refine⟨_,ha.le,hr.world hi ha,⟨⟨w.heap.size,0,none⟩,cap,by rw[hn],by omega,.inl rfl,rows_claimed hl (VRelV.mono ha.le _ _ hv) λj u hj=>?_⟩,.inr ⟨w.heap.size,n,cap,us,e,z,rows,rfl,rfl,by simp[Gh.claim],hr.acc.size,heap_alloc_new w _,hus,hc,hm,hz⟩⟩;rw[List.getElem?_take] at hj;split at hj
 ·rename_i hlt;simp only[Gh.claim,if_true,Nat.zero_add,if_pos hlt]
  grind
 ·cases hj
theorem fill_dense {size:Nat}:∀(vs:List Value) (k:Nat) (cells:Array Value),(∀v∈vs,v.cells.size=size)→(k+vs.length)*size≤cells.size→
  Instr.fill (λi=>some (i*size,size)) cells ((vs.zipIdx k).map λp=>(p.2,p.1))=some (cells.toList.take (k*size)++vs.flatMap (·.cells.toList)++cells.toList.drop ((k+vs.length)*size)).toArray
 |[],k,cells,_,_=>by simp[Instr.fill]
 |v::vs,k,cells,hv,hl=>by
  have hs:v.cells.size=size:=hv v (by simp);simp only[List.length_cons] at hl;have hle:(k+1)*size+vs.length*size≤cells.size:=by rw[←Nat.add_mul];exact Nat.le_trans (Nat.le_of_eq (by congr 1;omega)) hl
  have hk1:(k+1)*size=k*size+size:=by rw[Nat.add_mul,Nat.one_mul]
  simp only[List.zipIdx_cons,List.map_cons,Instr.fill];have c1:¬(v.cells.size≠size∨k*size+v.cells.size>cells.size):=by rw[hs];omega
  simp only[ne_eq,decide_not,Bool.or_eq_true,decide_eq_true_eq,Bool.not_eq_true',decide_eq_false_iff_not] at*;rw[if_neg c1];have hf:=foldl_splice v.cells.toList (k*size) 0 cells (by simp[hs];omega);have hzip:v.cells.zipIdx.foldl (λcs (c,j)=>cs.setIfInBounds (k*size+j) c) cells=(cells.toList.take (k*size)++v.cells.toList++cells.toList.drop (k*size+size)).toArray:=by rw[←Array.foldl_toList,Array.toList_zipIdx];rw[hf];simp[hs]
  rw[hzip];have hlen:(cells.toList.take (k*size)++v.cells.toList++cells.toList.drop (k*size+size)).length=cells.size:=by simp[hs];omega
  rw[fill_dense vs (k+1) _ (λu hu=>hv u (by simp[hu])) (by simp only[List.size_toArray];rw[hlen,Nat.add_mul];exact hle)]
  congr 2
  have e1:(cells.toList.take (k*size)++v.cells.toList).length=(k+1)*size:=by simp[hs];omega
  have e2:(cells.toList.take (k*size)++v.cells.toList++cells.toList.drop (k*size+size)).take ((k+1)*size)=cells.toList.take (k*size)++v.cells.toList:=by rw[←e1];exact List.take_left
  have e3:(cells.toList.take (k*size)++v.cells.toList++cells.toList.drop (k*size+size)).drop ((k+1+vs.length)*size)=cells.toList.drop ((k+(vs.length+1))*size):=by
   rw[List.drop_append,List.drop_of_length_le (by rw[e1];exact Nat.mul_le_mul_right _ (by omega)),e1,List.drop_drop,List.nil_append]
   congr 1
   have:(k+1+vs.length)*size-(k+1)*size=vs.length*size:=by rw[Nat.add_mul (k+1)];omega
   rw[this,Nat.add_mul k,Nat.add_mul vs.length];omega
  rw[e2,e3];simp
theorem zeroOk_spec {P:Program} {t:TypeId} (h:zeroOk P t=true):∃i z,P.info? t=some i∧i.zero=some z∧z.cells.size=i.size:=by
 unfold zeroOk at h
 grind
theorem tySize_info {P:Program} {t:TypeId} {n:Nat} {i:TypeInfo} (h:tySize P t=some n) (hi:P.info? t=some i):i.size=n:=by simpa[tySize,hi] using h
theorem tyBytes_info {P:Program} {t:TypeId} {n:Nat} {i:TypeInfo} (h:tyBytes P t=some n) (hi:P.info? t=some i):i.bytes=n:=by simpa[tyBytes,hi] using h
theorem args_cells:∀{args:List AVal} {us:List Value} {z:Nat},VRelV γ args us→(∀x∈args,x.cells.length=z)→0<z→VRelV γ (args.map (·.cells)).flatten (us.flatMap (·.cells.toList))∧(∀u∈us.flatMap (·.cells.toList),u.oneCell'=true)∧∀u∈us,u.cells.size=z
 |[],us,z,h,_,_=>by rw[VRelV] at h;subst h;exact⟨rfl,by simp,by simp⟩
 |x::args,us,z,h,hl,hz=>by
  obtain⟨u,us',rfl,h1,h2⟩:=h;have hx:=hl x (by simp);obtain⟨q1,q2⟩:=cells_rel h1 (by omega);obtain⟨r1,r2,r3⟩:=args_cells h2 (λy hy=>hl y (by simp[hy])) hz;refine⟨by simpa using q1.append r1,λv hv=>?_,λv hv=>?_⟩
  ·grind
  ·rcases List.mem_cons.1 hv with rfl|hv
   ·have:=q1.length;simp at this;omega
   ·grind
theorem zip_parts {a:Act}:∀{l:List (Nat×Operand)} {k:Nat},l.map (·.1)=List.range' k l.length→l.map (λp=>(p.1,a.eval p.2))=((l.map λp=>a.eval p.2).zipIdx k).map λp=>(p.2,p.1)
 |[],k,_=>by simp
 |(i,x)::l,k,h=>by simp only[List.map_cons,List.length_cons,List.range'_succ,List.cons.injEq] at h;obtain⟨rfl,h⟩:=h;simp[List.zipIdx_cons,zip_parts h]
theorem sim_mksl {o:Oper} {t e:TypeId} {len n:Nat} {parts:Array (Nat×Operand)} {args:List AVal} {u:AVal} (ho:o.op= .buildSlice t len parts) (ht:C.P.underlying t=some (.slice e)) (hsz:tySize C.P e=some (n+1)) (hp:parts.toList.map (·.1)=List.range len) (hzo:zeroOk C.P e=true)
  (ha:opVals C σ (parts.toList.map (·.2))=some args) (hu:peval (.mksl (n+1)) args=some u) (hr:Rel C γ0 w0 γ β σ h a w):Sim C γ0 w0 o a w (σ.put o.dst (.own u)) h:=by
 obtain⟨i,z,hi,hz,hzs⟩:=zeroOk_spec hzo;have his:=tySize_info hsz hi;simp only[peval] at hu;split at hu
 ·rename_i hc
  cases hu
  simp only[Bool.and_eq_true,List.all_eq_true,beq_iff_eq,decide_eq_true_eq] at hc;obtain⟨hc1,hc2⟩:=hc;have hargs:=opVals_rel hr ha;have hlen:parts.toList.length=len:=by have:=congrArg List.length hp;simpa using this
  have hal:args.length=len:=by have:=hargs.length;simp at this;simp at hlen;omega
  obtain⟨q1,q2,q3⟩:=args_cells hargs hc1 (Nat.succ_pos n);have hflen:=q1.length;rw[flatten_length (z:=n+1) (by intro r hr;obtain⟨x,hx,rfl⟩:=List.mem_map.1 hr;exact hc1 x hx),List.length_map,hal] at hflen;have hrun:∃cells:Array Value,cells.toList=(parts.toList.map (·.2) |>.map a.eval).flatMap (·.cells.toList)∧(Instr.buildSlice t len (parts.map λ(i,x)=>(i,a.eval x))).run C.P w= .ok (.slice (some ⟨w.heap.size,0,none⟩) len len) (w.alloc (.cells cells e)):=by
   have hpl:(parts.map λ(i,x)=>(i,a.eval x)).toList=(((parts.toList.map (·.2)).map a.eval).zipIdx 0).map λp=>(p.2,p.1):=by have:=zip_parts (a:=a) (l:=parts.toList) (k:=0) (by rw[hlen,←List.range_eq_range'];exact hp);simp only[Array.toList_map,List.map_map];exact this
   have hfd:=fill_dense (size:=n+1) ((parts.toList.map (·.2)).map a.eval) 0 ((Array.range (len*(n+1))).map (z.cells[·%z.cells.size]!)) q3 (by simp at hlen⊢;rw[hlen];exact Nat.le_refl _);rw[←hpl] at hfd;have e0:((Array.range (len*(n+1))).map (z.cells[·%z.cells.size]!)).toList.drop ((0+((parts.toList.map (·.2)).map a.eval).length)*(n+1))=[]:=by apply List.drop_of_length_le;simp at hlen⊢;rw[hlen];exact Nat.le_refl _
   rw[e0] at hfd;simp only[Nat.zero_mul,List.take_zero,List.nil_append,List.append_nil] at hfd;refine⟨_,rfl,?_⟩;by_cases h0:len*(n+1)=0
   ·have hl0:len=0:=by
     rcases Nat.mul_eq_zero.1 h0 with h|h
     ·exact h
     ·omega
    subst hl0;have hp0:parts=#[]:=by apply Array.eq_empty_of_size_eq_zero;simpa using hlen
    subst hp0;have hrz:(Array.range 0:Array Nat)=#[]:=rfl;simp[Instr.buildSlice,run_underlying ht,sizeOf,typeInfo,hi,newRow,Instr.fill,hrz]
   ·exact run_buildSlice w t e len _ _ i z ht hi hz (by rw[his];rw[hal] at hc2;omega) (by rw[his];exact h0) (by rw[his];exact hfd)
  obtain⟨cells,hcells,hrun⟩:=hrun;have hcs:cells.size=len*(n+1):=by rw[←Array.length_toList,hcells];exact hflen
  obtain⟨γ',hle,hr',hv',hown⟩:=hr.newSlice cells e (z:=n+1) (n:=len) (cap:=len) (rows:=args.map (·.cells)) (Nat.succ_pos n) (by simp[hal]) (by intro r hr;obtain⟨x,hx,rfl⟩:=List.mem_map.1 hr;exact hc1 x hx) hcs (Nat.le_refl _)
   (by rw[hal] at hc2;have:len≤len*(n+1):=Nat.le_mul_of_pos_right _ (Nat.succ_pos n);simp only[maxLen];omega) (by rw[hcells,List.take_of_length_le (by rw[hflen];exact Nat.le_refl _)];exact q1) (by rw[hcells,List.take_of_length_le (by rw[hflen];exact Nat.le_refl _)];exact q2)
  obtain⟨γ2,hr2⟩:=hr'.putOwn hv' hown o.dst;exact Sim.value (by simp only[execOp,ho];exact run_value' hrun) hr2
 ·cases hu
theorem sim_nosl {o:Oper} {t e:TypeId} {len n:Nat} {parts:Array (Nat×Operand)} (ho:o.op= .buildSlice t len parts) (ht:C.P.underlying t=some (.slice e)) (hsz:tySize C.P e=some (n+1)) (hp:parts.toList.map (·.1)=List.range len) (hzo:zeroOk C.P e=true) (h0:len=0)
  (hr:Rel C γ0 w0 γ β σ h a w):Sim C γ0 w0 o a w (σ.put o.dst (.own (.nosl (n+1)))) h:=by
 subst h0;obtain⟨i,z,hi,hz,hzs⟩:=zeroOk_spec hzo;have hp0:parts=#[]:=by simp_all
 subst hp0;have hrz:(Array.range 0:Array Nat)=#[]:=rfl;have hrun:(Instr.buildSlice t 0 ((#[]:Array (Nat×Operand)).map λ(i,x)=>(i,a.eval x))).run C.P w= .ok (.slice (some ⟨w.heap.size,0,none⟩) 0 0) (w.alloc (.cells #[] e)):=by simp[Instr.buildSlice,run_underlying ht,sizeOf,typeInfo,hi,newRow,Instr.fill,hrz]
 obtain⟨γ',hle,hr',_,_⟩:=hr.newSlice #[] e (n:=0) (rows:=[]) (Nat.succ_pos n) rfl (by simp) (by simp) (Nat.le_refl _) (by simp[maxLen]) (by rw[Nat.zero_mul];exact(rfl:VRelV γ [] [])) (by simp);obtain⟨γ2,hr2⟩:=hr'.putOwn (x:= .nosl (n+1)) ⟨_,rfl⟩ (.inl (.inr ⟨_,rfl⟩)) o.dst;exact Sim.value (by simp only[execOp,ho];exact run_value' hrun) hr2
theorem src_rel {t':TypeId} {size bytes:Nat} {v u r:AVal} {xv:Value} (ht':(∃e',C.P.underlying t'=some (.slice e'))∨C.P.underlying t'=some .string) (hi:Inv γ h w) (hu:VRel γ u xv) (hp:appendOf size bytes v u=some r):
  ∃(rows:List (List AVal)) (news:List Value),appendTo size bytes v rows=some r∧Src C.P size t' xv rows.length news w∧VRelV γ rows.flatten news∧(∀r∈rows,r.length=size):=by
 unfold appendOf at hp;split at hp
 ·rw[show xv=_ from hu];exact⟨[],[],hp,⟨ht',λ_=>rfl,run_firstCells_none w size 0 0 0,run_firstCells_none w.drew size 0 0 0,by simp,by simp⟩,rfl,by simp⟩
 ·rename_i z;split at hp
  ·obtain⟨b,hxv⟩:=hu;rw[hxv];exact⟨[],[],hp,⟨ht',λ_=>rfl,run_firstCells_some w _ _ _ _ _ [] (by simp) (λj x hj=>by simp at hj),run_firstCells_some w.drew _ _ _ _ _ [] (by simp) (λj x hj=>by simp at hj),by simp,by simp⟩,rfl,by simp⟩
  ·cases hp
 ·rename_i z rows;split at hp
  ·rename_i hz;subst hz;obtain⟨ad,cap,hxv,hcap,hsp,hR⟩:=hu;obtain⟨us,p1,p2,p3⟩:=hR.values;have hadd:∀(j:Nat) (x:Value),us[j]?=some x→ad.add j=⟨ad.block,ad.off+j,none⟩:=λj x hj=>by
    have hpos:0<rows.length:=by grind
    have had:=plain_addr hsp hcap hpos;generalize ad.block=b at*;generalize ad.off=o at*;subst had;unfold Addr.add;split<;>simp_all
   rw[hxv];refine⟨rows,us,hp,⟨ht',λ_=>rfl,run_firstCells_some w _ _ _ _ _ us p2 (λj x hj=>by rw[hadd j x hj];exact(hi.imm _ _ _ (p3 j x hj)).1),run_firstCells_some w.drew _ _ _ _ _ us p2 (λj x hj=>by rw[hadd j x hj];exact(hi.imm _ _ _ (p3 j x hj)).1),p2,λx hx=>?_⟩,p1,λr hr=>?_⟩
   ·obtain⟨j,hj⟩:=List.getElem?_of_mem hx;exact(hi.imm _ _ _ (p3 j x hj)).2.1
   ·obtain⟨j,hj⟩:=List.getElem?_of_mem hr;exact(hR.get hj).1
  ·cases hp
 ·rename_i s;split at hp
  ·rename_i hz;subst hz;rw[show xv=_ from hu];have hlen:(rowsOf s).length=(⟨⟨s⟩⟩:ByteArray).size:=by simp[rowsOf,ByteArray.size]
   have hrel:∀l:List UInt8,VRelV γ (rowsOf l).flatten (l.map λb=>Value.int .u8 b.toNat):=by
    intro l
    induction l with
    |nil=>rfl
    |cons b l ih=>exact⟨_,_,rfl,rfl,ih⟩
   refine⟨rowsOf s,byteCells ⟨⟨s⟩⟩,hp,?_,?_,λr hr=>?_⟩
   ·rw[hlen];exact⟨ht',λ_=>rfl,firstCells_string _ w,firstCells_string _ w.drew,by rw[byteCells_length,Nat.mul_one],λu hu=>by obtain⟨_,_,rfl⟩:=List.mem_map.1 hu;rfl⟩
   ·simpa[byteCells] using hrel s
   ·obtain⟨b,_,rfl⟩:=List.mem_map.1 hr;rfl
  ·cases hp
 ·cases hp
theorem Rel.growTail (hr:Rel C γ0 w0 γ β σ h a w) {g n cap z:Nat} {us:Array Value} {e:TypeId} {rr rows:List (List AVal)} {news:List Value} (hown:γ.own g=some (.tail σ.length none (n*z))) (hB:w0.heap.size≤g) (hg:w.heap[g]?=some (.cells us e (0,0)))
  (hus:us.size=cap*z) (hm:cap≤maxLen) (hz:0<z) (hv:VRel γ (.sl z rr) (.slice (some ⟨g,0,none⟩) n cap)) (hl:∀r∈rows,r.length=z) (hn:VRelV γ rows.flatten news) (h1:∀u∈news,u.oneCell'=true) (hroom:n+rows.length≤cap):
  ∃γ',γ.le γ'∧Rel C γ0 w0 γ' β σ h a (w.setRow g (us.toList.take (n*z)++news++us.toList.drop (n*z+news.length)).toArray)∧VRel γ' (.sl z (rr++rows)) (.slice (some ⟨g,0,none⟩) (n+rows.length) cap)∧
   OwnT γ' w0.heap.size (w.setRow g (us.toList.take (n*z)++news++us.toList.drop (n*z+news.length)).toArray) σ.length none (.slice (some ⟨g,0,none⟩) (n+rows.length) cap) (.sl z (rr++rows)):=by
 obtain⟨ad,cap',hve,hcap,_,hR⟩:=hv;simp only[Value.slice.injEq,Option.some.injEq] at hve;obtain⟨rfl,rfl,rfl⟩:=hve;simp only at hR;have hnl:news.length=rows.length*z:=by rw[hn.length,flatten_length hl]
 have hfit:(rr.length+rows.length)*z≤us.size:=by rw[hus];exact Nat.mul_le_mul_right _ hroom
 rw[Nat.add_mul] at hfit;have htl:(us.toList.take (rr.length*z)).length=rr.length*z:=by simp;omega
 obtain⟨vs,q1,q2,q3⟩:=hR.values;have hvs:vs=us.toList.take (rr.length*z):=by
  apply List.ext_getElem?;intro j;by_cases hj:j<rr.length*z
  ·have hjv:j<vs.length:=by rw[q2];exact hj
   have hc:=(hr.inv.imm _ _ _ (q3 j _ (List.getElem?_eq_getElem hjv))).1;rw[cell_of_row w _ _ us e (0,0) hg,Nat.zero_add] at hc;rw[List.getElem?_eq_getElem hjv,List.getElem?_take_of_lt hj];simpa using hc.symm
  ·rw[List.getElem?_eq_none (by omega),List.getElem?_eq_none (by rw[htl];omega)]
 rw[hvs] at q1;have hu1:∀u∈us.toList.take (rr.length*z),u.oneCell'=true:=λu hu=>by rw[←hvs] at hu;obtain⟨j,hj⟩:=List.getElem?_of_mem hu;exact(hr.inv.imm _ _ _ (q3 j u hj)).2.1
 have hkk:(rr.length+rows.length)*z=rr.length*z+rows.length*z:=Nat.add_mul _ _ _;have htake:((us.toList.take (rr.length*z)++news++us.toList.drop (rr.length*z+news.length)).toArray).toList.take ((rr.length+rows.length)*z)=us.toList.take (rr.length*z)++news:=by
  have:(us.toList.take (rr.length*z)++news).length=(rr.length+rows.length)*z:=by rw[List.length_append,htl,hnl,hkk]
  rw[←this];exact List.take_left
 have hsz:(us.toList.take (rr.length*z)++news++us.toList.drop (rr.length*z+news.length)).length=us.size:=by simp[hnl];omega
 generalize hU:(us.toList.take (rr.length*z)++news++us.toList.drop (rr.length*z+news.length)).toArray=us' at*;have hus':us'.size=us.size:=by rw[←hU];simpa using hsz
 obtain⟨hi,hle⟩:=write_tail hr.inv hown hg us' ((rr.length+rows.length)*z) σ.length none (λo ho=>by
   rw[←hU,List.append_assoc,List.getElem?_toArray,List.getElem?_append_left (by omega),List.getElem?_take_of_lt ho];simp)
  (by omega) (λo u ho hu=>by
   have:u∈us'.toList.take ((rr.length+rows.length)*z):=by refine List.mem_of_getElem? (i:=o) ?_;rw[List.getElem?_take_of_lt ho];simpa using hu
   rw[htake,List.mem_append] at this;exact this.elim (hu1 u) (h1 u)) (λo v hv=>by
   have:=(hr.inv.imm _ _ _ hv).1
   rwa [cell_of_row w _ _ us e (0,0) hg] at this)
 have hk:KeptBut g γ w (γ.claim g us' ((rr.length+rows.length)*z) (some (.tail σ.length none ((rr.length+rows.length)*z)))) (w.setRow g us'):=
  ⟨hle,λb x hb hx _=>⟨by simp only[Gh.claim,if_neg hb];exact hx,setRow_other w g b us' hb⟩⟩
 have hR':VRelR (γ.claim g us' ((rr.length+rows.length)*z) (some (.tail σ.length none ((rr.length+rows.length)*z)))) (rr++rows) z g 0:=by
  refine rows_claimed (us:=us'.toList.take ((rr.length+rows.length)*z)) (λr hr=>?_) ?_ (λj u hj=>?_)
  ·rcases List.mem_append.1 hr with hr|hr
   ·obtain⟨i,hi⟩:=List.getElem?_of_mem hr;exact(hR.get hi).1
   ·exact hl r hr
  ·rw[htake,List.flatten_append];exact(VRelV.mono hle _ _ q1).append (VRelV.mono hle _ _ hn)
  ·rw[List.getElem?_take] at hj;split at hj
   ·rename_i hlt;simp only[Gh.claim,if_true,Nat.zero_add,if_pos hlt];simpa using hj
   ·cases hj
 refine⟨_,hle,⟨hi,⟨hr.fr.size,λs=>?_⟩,hr.acc.write (g:=g) hB hle (by simp) rfl rfl rfl (λb hb=>⟨setRow_other w g b us' hb,by simp only[Gh.claim,if_neg hb]⟩),hr.defers,λx cs hx=>VRelM.mono hle _ _ _ (hr.glob x cs hx)⟩,
  ⟨⟨g,0,none⟩,cap,by simp,by simpa using hroom,.inl rfl,hR'⟩,.inr ⟨g,rr.length+rows.length,cap,us',e,z,rr++rows,rfl,rfl,by simp[Gh.claim],hB,setRow_heap w g us us' e (0,0) hg,by rw[hus',hus],hroom,hm,hz⟩⟩
 by_cases hs:s=σ.length
 ·subst hs;rw[Env.at_length];trivial
 ·exact(hr.fr.slots s).keptBut hown hk (by simp only[Owner.slot];intro hx;cases hx;exact hs rfl)
theorem append_types {t t' ty:TypeId} {ts:Array TypeId} {xs:Array Value} (h0:ts[0]?=some t) (h1:ts[1]?=some t'):Builtin.append_ ts ty xs=Builtin.append_ #[t,t'] ty xs:=by simp only[Builtin.append_,h0,h1];rfl
theorem VRelV.of_take {l:List AVal} {us:List Value} {n:Nat} (h:VRelV γ l us) (hn:us.length≤n):VRelV γ l (us.take n):=by rw[List.take_of_length_le hn];exact h
theorem rowsFrom_flatten {cs:List AVal} {z:Nat}:∀{n off:Nat},(rowsFrom cs z off n).flatten=(cs.drop off).take (n*z)
 |0,off=>by simp[rowsFrom]
 |n+1,off=>by rw[rowsFrom,List.flatten_cons,rowsFrom_flatten,Nat.add_mul,Nat.one_mul,Nat.add_comm (n*z) z,List.take_add,List.drop_drop]
theorem rowsFrom_length {cs:List AVal} {z:Nat}:∀{n off:Nat},(rowsFrom cs z off n).length=n
 |0,off=>rfl
 |n+1,off=>by rw[rowsFrom,List.length_cons,rowsFrom_length]
theorem rowsFrom_rows {cs:List AVal} {z:Nat}:∀{n off:Nat},off+n*z≤cs.length→∀r∈rowsFrom cs z off n,r.length=z
 |0,off,_,r,hr=>by simp[rowsFrom] at hr
 |n+1,off,hl,r,hr=>by
  rw[Nat.add_mul,Nat.one_mul] at hl;rw[rowsFrom,List.mem_cons] at hr;rcases hr with rfl|hr
  ·grind
  ·exact rowsFrom_rows (by omega) r hr
theorem rows_src {t':TypeId} {size:Nat} {u:AVal} {xv:Value} {rows:List (List AVal)} (ht':(∃e',C.P.underlying t'=some (.slice e'))∨C.P.underlying t'=some .string) (hi:Inv γ h w) (hu:VRel γ u xv) (hp:rowsAt h size u=some rows):
  ∃news:List Value,Src C.P size t' xv rows.length news w∧VRelV γ rows.flatten news∧(∀r∈rows,r.length=size):=by
 unfold rowsAt at hp;split at hp
 ·cases hp
  rw[show xv=_ from hu];exact⟨[],⟨ht',λ_=>rfl,run_firstCells_none w size 0 0 0,run_firstCells_none w.drew size 0 0 0,by simp,by simp⟩,rfl,by simp⟩
 ·rename_i z;split at hp
  ·cases hp
   obtain⟨b,hxv⟩:=hu;rw[hxv];exact⟨[],⟨ht',λ_=>rfl,run_firstCells_some w _ _ _ _ _ [] (by simp) (λj x hj=>by simp at hj),run_firstCells_some w.drew _ _ _ _ _ [] (by simp) (λj x hj=>by simp at hj),by simp,by simp⟩,rfl,by simp⟩
  ·cases hp
 ·rename_i z rows';split at hp
  ·rename_i hz
   cases hp
   subst hz;obtain⟨ad,cap,hxv,hcap,hsp,hR⟩:=hu;obtain⟨us,p1,p2,p3⟩:=hR.values;have hadd:∀(j:Nat) (x:Value),us[j]?=some x→ad.add j=⟨ad.block,ad.off+j,none⟩:=λj x hj=>by
    have hpos:0<rows.length:=by
     rcases Nat.eq_zero_or_pos rows.length with h0|h0
     ·have:us.length=0:=by rw[p2,h0,Nat.zero_mul]
      rw[List.eq_nil_of_length_eq_zero this] at hj;simp at hj
     ·exact h0
    have had:=plain_addr hsp hcap hpos;generalize ad.block=b at*;generalize ad.off=o at*;subst had;unfold Addr.add;split<;>simp_all
   rw[hxv];refine⟨us,⟨ht',λ_=>rfl,run_firstCells_some w _ _ _ _ _ us p2 (λj x hj=>by rw[hadd j x hj];exact(hi.imm _ _ _ (p3 j x hj)).1),run_firstCells_some w.drew _ _ _ _ _ us p2 (λj x hj=>by rw[hadd j x hj];exact(hi.imm _ _ _ (p3 j x hj)).1),p2,λx hx=>?_⟩,p1,λr hr=>?_⟩
   ·obtain⟨j,hj⟩:=List.getElem?_of_mem hx;exact(hi.imm _ _ _ (p3 j x hj)).2.1
   ·obtain⟨j,hj⟩:=List.getElem?_of_mem hr;exact(hR.get hj).1
  ·cases hp
 ·rename_i s;split at hp
  ·rename_i hz
   cases hp
   subst hz;rw[show xv=_ from hu];have hlen:(rowsOf s).length=(⟨⟨s⟩⟩:ByteArray).size:=by simp[rowsOf,ByteArray.size]
   have hrel:∀l:List UInt8,VRelV γ (rowsOf l).flatten (l.map λb=>Value.int .u8 b.toNat):=by
    intro l
    induction l with
    |nil=>rfl
    |cons b l ih=>exact⟨_,_,rfl,rfl,ih⟩
   refine⟨byteCells ⟨⟨s⟩⟩,?_,?_,λr hr=>?_⟩
   ·rw[hlen];exact⟨ht',λ_=>rfl,firstCells_string _ w,firstCells_string _ w.drew,by rw[byteCells_length,Nat.mul_one],λu hu=>by obtain⟨_,_,rfl⟩:=List.mem_map.1 hu;rfl⟩
   ·simpa[byteCells] using hrel s
   ·obtain⟨b,_,rfl⟩:=List.mem_map.1 hr;rfl
  ·cases hp
 ·rename_i id off n z;split at hp
  ·rename_i hz;subst hz;split at hp
   ·rename_i cs hcs;split at hp
    ·rename_i hl
     cases hp
     obtain⟨b,cap,hb,hxv,hcap,hz0,hsz⟩:=hu;obtain⟨us,e,fr,p1,pf,p2,p3⟩:=hi.cells id cs hcs b hb;have hul:(us.toList.take cs.length).length=cs.length:=p2.length;have hnl:(((us.toList.take cs.length).drop off).take (n*z)).length=n*z:=by rw[List.length_take,List.length_drop,hul];omega
     have hadd:∀j,(⟨b,off,none⟩:Addr).add j=⟨b,off+j,none⟩:=λj=>by unfold Addr.add;split<;>simp_all
     have hcell:∀(j:Nat) (x:Value),(((us.toList.take cs.length).drop off).take (n*z))[j]?=some x→w.cell? ((⟨b,off,none⟩:Addr).add j)=some x:=λj x hj=>by
      rw[hadd,cell_of_row w _ _ us e fr p1];rw[List.getElem?_take] at hj;split at hj
      ·rw[List.getElem?_drop,List.getElem?_take] at hj;split at hj
       ·simpa using hj
       ·cases hj
      ·cases hj
     rw[hxv,rowsFrom_length];refine⟨((us.toList.take cs.length).drop off).take (n*z),⟨ht',λ_=>rfl,run_firstCells_some w _ _ _ _ _ _ hnl hcell,run_firstCells_some w.drew _ _ _ _ _ _ hnl (λj x hj=>hcell j x hj),hnl,λx hx=>p3 x (List.mem_of_mem_drop (List.mem_of_mem_take hx))⟩,?_,rowsFrom_rows hl⟩;rw[rowsFrom_flatten];exact(p2.drop off).take (n*z)
    ·cases hp
   ·cases hp
  ·cases hp
 ·cases hp
theorem sim_append_core {o:Oper} {c:Call} {t t' e:TypeId} {n b:Nat} {s x:Operand} {v u r:AVal} {rows:List (List AVal)} {news:List Value} (ho:o.op= .call c) (hc:c.callee= .builtin .append) (h0:c.argTypes[0]?=some t) (h1:c.argTypes[1]?=some t') (hargs:c.args.toList=[s,x]) (ht:C.P.underlying t=some (.slice e))
  (ht':(∃e',C.P.underlying t'=some (.slice e'))∨C.P.underlying t'=some .string) (hsz:tySize C.P e=some (n+1)) (hby:tyBytes C.P e=some (b+1)) (hown:isOwn C σ s=true) (hzo:zeroOk C.P e=true) (hv:opVals C σ [s,x]=some [v,u])
  (happ:appendTo (n+1) (b+1) v rows=some r) (hsrc:Src C.P (n+1) t' (a.eval x) rows.length news w) (hnr:VRelV γ rows.flatten news) (hrl:∀q∈rows,q.length=n+1) (hr:Rel C γ0 w0 γ β σ h a w):Sim C γ0 w0 o a w ((σ.demote (demoteOf σ s)).put o.dst (.own r)) h:=by
 obtain⟨i,z,hi,hz,hzs⟩:=zeroOk_spec hzo;have his:=tySize_info hsz hi;have hib:=tyBytes_info hby hi;obtain⟨_,_,e0,hvs,hvx⟩:=args_two hr hv
 cases e0
 have hv1:opVal C σ s=some v:=by
  unfold opVals at hv;split at hv
  ·rename_i p ps q1 q2;cases hv;exact q1
  ·cases hv
 obtain⟨γ1,hle,hr1,hv',hT⟩:=own_operand hr hown hv1 (σ.demote (demoteOf σ s)).length none;have hnr1:=VRelV.mono hle _ _ hnr;have heq:c.args.map a.eval=#[a.eval s,a.eval x]:=by apply Array.ext';simp[hargs]
 have hex:∀v' w',(Builtin.append_ #[t,t'] o.type #[a.eval s,a.eval x]).run C.P w= .ok v' w'→(execOp a.eval o).run C.P w= .ok (.value v') w':=λv' w' hrun=>by
  have:execOp a.eval o=(do pure (Next.value (←Builtin.append_ #[t,t'] o.type #[a.eval s,a.eval x]))):=by rw[←heq,←append_types (ty:=o.type) h0 h1];simp only[execOp,ho,resolve,hc];rfl
  rw[this];exact run_value' hrun
 have hsrc':Src C.P i.size t' (a.eval x) rows.length news w:=by rw[his];exact hsrc
 have hnl:news.length=rows.length*(n+1):=hsrc.newsLen;have grow:∀(base:Option Addr) (k cap:Nat) (rr:List (List AVal)) (olds:List Value),a.eval s= .slice base k cap→rr.length=k→(∀q∈rr,q.length=n+1)→VRelV γ1 rr.flatten olds→(∀q∈olds,q.oneCell'=true)→
   (Builtin.firstCells i.size k (.slice base k cap)).run C.P w.drew= .ok olds.toArray w.drew→cap<k+rows.length→(k+rows.length)*(b+1)≤maxBytes→r= .sl (n+1) (rr++rows)→
   Sim C γ0 w0 o a w ((σ.demote (demoteOf σ s)).put o.dst (.own r)) h:=by
  intro base k cap rr olds hs hk hrr hol ho1 hfirst hlt hbb hre;have hb':k+rows.length≤maxBytes:=Nat.le_trans (Nat.le_mul_of_pos_right _ (Nat.succ_pos b)) hbb;have hgrow:=run_append_grow_src (P:=C.P) w t t' o.type e i z ht hi hz base k cap olds hfirst (a.eval x) rows.length news hsrc' hlt (by simp only[maxBytes] at hb';omega) (by rw[hib];exact growslice_fits hlt hbb);rw[←hs] at hgrow;have hge:=grownCap_ge w (k+rows.length) cap e;have hole:olds.length=k*(n+1):=by rw[hol.length,flatten_length hrr,hk]
  have hon:(olds++news).length=(k+rows.length)*(n+1):=by rw[List.length_append,hole,hnl,Nat.add_mul]
  obtain⟨γ2,hle2,hr2,hv2,hT2⟩:=hr1.drew.newSlice ((olds++news).toArray++Builtin.zeroCells z.cells (grownCap w (k+rows.length) cap e-(k+rows.length))) e (z:=n+1) (n:=k+rows.length) (cap:=grownCap w (k+rows.length) cap e) (rows:=rr++rows) (Nat.succ_pos n) (by simp[hk])
   (λq hq=>(List.mem_append.1 hq).elim (hrr q) (hrl q))
   (by simp only[Array.size_append,List.size_toArray,size_zeroCells,hzs,his,hon,←Nat.add_mul];congr 1;omega) hge (grownCap_le_maxLen w _ _ _ (by simp only[maxBytes] at hb';simp only[maxLen];omega))
   (by simp only[Array.toList_append,List.flatten_append];rw[←hon,List.take_left];exact hol.append hnr1)
   (λq hq=>by simp only[Array.toList_append] at hq;rw[←hon,List.take_left,List.mem_append] at hq;exact hq.elim (ho1 q) (hsrc.one q))
  rw[hre];obtain⟨γ3,hr3⟩:=hr2.putOwn hv2 hT2 o.dst;exact Sim.value (hex _ _ hgrow) hr3
 rcases hT with(rfl|⟨zz,rfl⟩)|⟨g,k,cap,us,e1,zz,rr,rfl,hse,hgo,hB,hg,hus,hkc,hm,hzz⟩
 ·have hse:a.eval s= .slice none 0 0:=hv'
  cases rows with
  |nil=>
   have hre:r= .slnil:=by simpa[appendTo] using happ.symm
   have hnn:news=[]:=List.eq_nil_of_length_eq_zero (by simpa using hnl);subst hnn;have hrun:(Builtin.append_ #[t,t'] o.type #[a.eval s,a.eval x]).run C.P w= .ok (.slice none 0 0) w:=by rw[hse];have hl:=hsrc'.len;have hcc:=hsrc'.cells;simp only[List.length_nil] at hl hcc;rcases ht' with⟨e',hk⟩|hk<;>simp[Builtin.append_,run_underlying ht,run_underlying hk,sizeOf,typeInfo,hi,hl,hcc]
   rw[hre];exact Sim.value (hex _ _ hrun) (hr1.put λ_ _=>⟨rfl,.inl (.inl rfl)⟩)
  |cons q rows=>
   have happ':r= .sl (n+1) (q::rows)∧(q::rows).length*(b+1)≤maxBytes:=by
    simp only[appendTo] at happ;split at happ
    ·rename_i hb;cases happ;exact⟨rfl,hb⟩
    ·cases happ
   exact grow none 0 0 [] [] hse rfl (by simp) rfl (by simp) (run_firstCells_none _ _ _ _ _) (by simp) (by simpa using happ'.2) (by simpa using happ'.1)
 ·obtain⟨g,hse⟩:=id hv'
  cases rows with
  |nil=>
   have hre:zz=n+1∧r= .nosl zz:=by
    simp only[appendTo] at happ;split at happ
    ·rename_i hz';cases happ;exact⟨hz',by rw[hz']⟩
    ·cases happ
   obtain⟨rfl,hre⟩:=hre;have hnn:news=[]:=List.eq_nil_of_length_eq_zero (by simpa using hnl);subst hnn;have hrun:(Builtin.append_ #[t,t'] o.type #[a.eval s,a.eval x]).run C.P w= .ok (.slice (some ⟨g,0,none⟩) 0 0) w:=by rw[hse];have hl:=hsrc'.len;have hcc:=hsrc'.cells;simp only[List.length_nil] at hl hcc;rcases ht' with⟨e',hk⟩|hk<;>simp[Builtin.append_,run_underlying ht,run_underlying hk,sizeOf,typeInfo,hi,hl,hcc,storeCells,Result.andThen]
   rw[hre];exact Sim.value (hex _ _ hrun) (hr1.put λ_ _=>⟨⟨g,rfl⟩,.inl (.inr ⟨_,rfl⟩)⟩)
  |cons q rows=>
   have happ':r= .sl (n+1) (q::rows)∧(q::rows).length*(b+1)≤maxBytes:=by
    simp only[appendTo] at happ;split at happ
    ·rename_i hb;cases happ;exact⟨rfl,hb.2⟩
    ·cases happ
   exact grow (some ⟨g,0,none⟩) 0 0 [] [] hse rfl (by simp) rfl (by simp) (run_firstCells_some w.drew _ _ _ _ _ [] (by simp) (λj x hj=>by simp at hj)) (by simp) (by simpa using happ'.2) (by simpa using happ'.1)
 ·obtain⟨ad0,cap0,hve,hcap,_,hR⟩:=id hv';rw[hse] at hve;simp only[Value.slice.injEq,Option.some.injEq] at hve;obtain⟨rfl,hk,rfl⟩:=hve;subst hk;simp only at hR;have hzn:zz=n+1∧r= .sl (n+1) (rr++rows)∧(rows=[]∨(rr.length+rows.length)*(b+1)≤maxBytes):=by
   cases rows with
   |nil=>
    simp only[appendTo] at happ;split at happ
    ·rename_i hz';cases happ;exact⟨hz',by simp[hz'],.inl rfl⟩
    ·cases happ
   |cons q rows=>
    simp only[appendTo] at happ;split at happ
    ·rename_i hz';cases happ;exact⟨hz'.1,rfl,.inr hz'.2⟩
    ·cases happ
  obtain⟨rfl,hre,hbb⟩:=hzn;by_cases hroom:rr.length+rows.length≤cap
  ·have hfit:rr.length*(n+1)+news.length≤us.size:=by rw[hnl,hus,←Nat.add_mul];exact Nat.mul_le_mul_right _ hroom
   have hrun:=run_append_room_src (P:=C.P) w t t' o.type e i ht hi g 0 rr.length cap (a.eval x) rows.length news hsrc' hroom (λj hj=>by rw[cell_of_row w _ _ us e1 (0,0) hg,his,Array.getElem?_eq_getElem (by omega)];rfl) (λj hj=>frozen_of_row w _ _ us e1 hg)
   rw[Nat.zero_add,his,setCells_row news _ us w hg hfit,←hse] at hrun;rw[hse] at hv';obtain⟨γ2,hle2,hr2,hv2,hT2⟩:=hr1.growTail hgo hB hg hus hm (Nat.succ_pos n) hv' hrl hnr1 hsrc.one hroom;obtain⟨γ3,hr3⟩:=hr2.putOwn hv2 hT2 o.dst;rw[hre];exact Sim.value (hex _ _ hrun) hr3
  ·obtain⟨vs,q1,q2,q3⟩:=hR.values;have hadd:∀j,(⟨g,0,none⟩:Addr).add j=⟨g,0+j,none⟩:=λj=>by unfold Addr.add;split<;>simp_all
   refine grow (some ⟨g,0,none⟩) rr.length cap rr vs hse rfl (λq hq=>?_) q1 (λq hq=>?_) ?_ (by omega) ?_ hre
   ·obtain⟨j,hj⟩:=List.getElem?_of_mem hq;exact(hR.get hj).1
   ·obtain⟨j,hj⟩:=List.getElem?_of_mem hq;exact(hr1.inv.imm _ _ _ (q3 j q hj)).2.1
   ·rw[his];exact run_firstCells_some w.drew _ _ _ _ _ vs q2 (λj y hj=>by rw[hadd];exact(hr1.inv.imm _ _ _ (q3 j y hj)).1)
   ·rcases hbb with rfl|hbb
    ·simp at hroom;omega
    ·exact hbb
theorem sim_append {o:Oper} {c:Call} {t t' e:TypeId} {n b:Nat} {s x:Operand} {v u r:AVal} (ho:o.op= .call c) (hc:c.callee= .builtin .append) (h0:c.argTypes[0]?=some t) (h1:c.argTypes[1]?=some t') (hargs:c.args.toList=[s,x]) (ht:C.P.underlying t=some (.slice e))
  (ht':(∃e',C.P.underlying t'=some (.slice e'))∨C.P.underlying t'=some .string) (hsz:tySize C.P e=some (n+1)) (hby:tyBytes C.P e=some (b+1)) (hown:isOwn C σ s=true) (hzo:zeroOk C.P e=true) (hv:opVals C σ [s,x]=some [v,u])
  (hp:peval (.append (n+1) (b+1)) [v,u]=some r) (hr:Rel C γ0 w0 γ β σ h a w):Sim C γ0 w0 o a w ((σ.demote (demoteOf σ s)).put o.dst (.own r)) h:=by
 obtain⟨_,_,e0,hvs,hvx⟩:=args_two hr hv
 cases e0
 obtain⟨rows,news,happ,hsrc,hnr,hrl⟩:=src_rel ht' hr.inv hvx hp;exact sim_append_core ho hc h0 h1 hargs ht ht' hsz hby hown hzo hv happ hsrc hnr hrl hr
theorem sim_appendM {o:Oper} {c:Call} {t t' e:TypeId} {n b:Nat} {s x:Operand} {v u r:AVal} (ho:o.op= .call c) (hc:c.callee= .builtin .append) (h0:c.argTypes[0]?=some t) (h1:c.argTypes[1]?=some t') (hargs:c.args.toList=[s,x]) (ht:C.P.underlying t=some (.slice e))
  (ht':(∃e',C.P.underlying t'=some (.slice e'))∨C.P.underlying t'=some .string) (hsz:tySize C.P e=some (n+1)) (hby:tyBytes C.P e=some (b+1)) (hown:isOwn C σ s=true) (hzo:zeroOk C.P e=true) (hv:opVals C σ [s,x]=some [v,u])
  (hp:happM h (n+1) (b+1) v u=some r) (hr:Rel C γ0 w0 γ β σ h a w):Sim C γ0 w0 o a w ((σ.demote (demoteOf σ s)).put o.dst (.own r)) h:=by
 obtain⟨_,_,e0,hvs,hvx⟩:=args_two hr hv
 cases e0
 unfold happM at hp
 cases hq:rowsAt h (n+1) u with
 |none=>rw[hq] at hp;cases hp
 |some rows=>rw[hq] at hp;obtain⟨news,hsrc,hnr,hrl⟩:=rows_src ht' hr.inv hvx hq;exact sim_append_core ho hc h0 h1 hargs ht ht' hsz hby hown hzo hv hp hsrc hnr hrl hr
end
end Go.Am
end
section
namespace Go.Am
open Go
section
variable {C:Ctx} {γ0 γ γ':Gh} {w0 w w':World} {β:Nat→Nat} {σ:Env} {h:AHeap} {a:Act} {fid:FuncId} {ops:List Oper}
theorem rowsOf_cells:∀s:Bytes,(rowsOf s).flatten=s.map λb=>AVal.int .u8 b.toNat
 |[]=>rfl
 |_::s=>by have:=rowsOf_cells s;simp only[rowsOf,List.map_cons,List.flatten_cons] at this⊢;rw[this];rfl
theorem rowsOf_flatten (γ:Gh):∀l:Bytes,VRelV γ (rowsOf l).flatten (l.map λb=>Value.int .u8 b.toNat)
 |[]=>rfl
 |_::l=>⟨_,_,rfl,rfl,rowsOf_flatten γ l⟩
theorem bytesRow_take (s:Bytes) (cap:Nat):(bytesRow ⟨⟨s⟩⟩ cap).toList.take s.length=s.map λb=>Value.int .u8 b.toNat:=by
 have:(s.map λb=>Value.int .u8 (b.toNat:Int)).length=s.length:=by simp
 simp only[bytesRow,Array.toList_append,Array.toList_map];rw[←this];exact List.take_left
theorem size_mk (s:Bytes):(⟨⟨s⟩⟩:ByteArray).size=s.length:=by simp[ByteArray.size]
theorem sim_s2b {o:Oper} {src dst e:TypeId} {x:Operand} {v u:AVal} (ho:o.op= .convert src dst x) (hs:C.P.underlying src=some .string) (hd:C.P.underlying dst=some (.slice e)) (he:C.P.underlying e=some (.int .u8)) (hx:opVals C σ [x]=some [v]) (hp:peval .s2b [v]=some u) (hr:Rel C γ0 w0 γ β σ h a w):
  Sim C γ0 w0 o a w (σ.put o.dst (.val u)) h:=by
 obtain⟨_,e0,hv⟩:=args_one hr hx
 cases e0
 simp only[peval] at hp;split at hp
 ·rename_i s heq
  cases heq
  split at hp
  ·cases hp
   have hrun:=run_bytes_of_string (P:=C.P) w src dst e ⟨⟨s⟩⟩ hs hd he;rw[←rel_str hv] at hrun;have hgc:=grownCap_ge w s.length 0 e;rw[size_mk] at hrun;obtain⟨hi,ha⟩:=alloc_claim hr.drew.inv (bytesRow ⟨⟨s⟩⟩ (grownCap w s.length 0 e)) e ((bytesRow ⟨⟨s⟩⟩ (grownCap w s.length 0 e)).size,(bytesRow ⟨⟨s⟩⟩ (grownCap w s.length 0 e)).size+1) s.length none (λo u ho hu=>by have hm:u∈(bytesRow ⟨⟨s⟩⟩ (grownCap w s.length 0 e)).toList.take s.length:=List.mem_of_getElem? (i:=o) (by rw[List.getElem?_take_of_lt ho];simpa using hu);rw[bytesRow_take] at hm;obtain⟨b,_,rfl⟩:=List.mem_map.1 hm;rfl) (.inl rfl)
   have hr':=hr.drew.world hi ha;refine Sim.value (v:= .slice (some ⟨w.heap.size,0,none⟩) s.length (grownCap w s.length 0 e)) (by simp only[execOp,ho];exact run_value' hrun) (hr'.put λ_ _=>⟨⟨w.heap.size,0,none⟩,grownCap w s.length 0 e,by simp[rowsOf],by simpa[rowsOf] using hgc,.inl rfl,?_⟩);refine rows_claimed (us:=s.map λb=>Value.int .u8 b.toNat) (λr hr=>?_) (rowsOf_flatten _ s) (λj u hj=>?_)
   ·obtain⟨b,_,rfl⟩:=List.mem_map.1 hr;rfl
   ·rw[←bytesRow_take s (grownCap w s.length 0 e),List.getElem?_take] at hj;split at hj
    ·rename_i hlt;simp only[Gh.claim,heap_drew,if_true,Nat.zero_add,if_pos hlt];simpa using hj
    ·cases hj
  ·cases hp
 ·cases hp
theorem sim_bytesObj {o:Oper} {src dst e:TypeId} {x:Operand} {v u:AVal} {h':AHeap} (ho:o.op= .convert src dst x) (hs:C.P.underlying src=some .string) (hd:C.P.underlying dst=some (.slice e)) (he:C.P.underlying e=some (.int .u8)) (hx:opVal C σ x=some v) (hp:hbytesObj h v=some (h',u)) (hr:Rel C γ0 w0 γ β σ h a w):
  Sim C γ0 w0 o a w (σ.put o.dst (.val u)) h':=by
 have hv:=opVal_rel hr hx;unfold hbytesObj at hp;split at hp
 ·rename_i s;split at hp
  ·cases hp
   have hrun:=run_bytes_of_string (P:=C.P) w src dst e ⟨⟨s⟩⟩ hs hd he;rw[←rel_str hv] at hrun;have hgc:=grownCap_ge w s.length 0 e;rw[size_mk] at hrun;have hl:(s.map λb=>AVal.int .u8 b.toNat).length=s.length:=by simp
   have hbs:(bytesRow ⟨⟨s⟩⟩ (grownCap w s.length 0 e)).size=grownCap w s.length 0 e:=by have e0:ByteArray.size ⟨⟨s⟩⟩=s.length:=size_mk s;simp only[bytesRow,Array.size_append,Array.size_map,Array.size_replicate,e0];simp only[List.size_toArray];omega
   have hsl:s.length≤maxLen:=by
    have hsl:s.length≤maxBytes:=by assumption
    simp only[maxBytes] at hsl;simp only[maxLen];omega
   obtain⟨γ',hle,hm,hr',hsz⟩:=hr.drew.newObj (bytesRow ⟨⟨s⟩⟩ (grownCap w s.length 0 e)) e ((bytesRow ⟨⟨s⟩⟩ (grownCap w s.length 0 e)).size,(bytesRow ⟨⟨s⟩⟩ (grownCap w s.length 0 e)).size+1) (s.map λb=>AVal.int .u8 b.toNat) (.inr (Nat.le_refl _))
    (by rw[hl,bytesRow_take];have:=rowsOf_flatten γ s;rw[rowsOf_cells] at this;exact this)
    (λu hu=>by rw[hl,bytesRow_take] at hu;obtain⟨b,_,rfl⟩:=List.mem_map.1 hu;rfl)
   exact Sim.value (v:= .slice (some ⟨w.heap.size,0,none⟩) s.length (grownCap w s.length 0 e)) (by simp only[execOp,ho];exact run_value' hrun) (hr'.put λ_ _=>⟨w.heap.size,_,hm,rfl,hgc,⟨Nat.succ_pos 0,grownCap_le_maxLen w _ _ _ hsl⟩,by rw[Nat.zero_add,Nat.mul_one,←hbs];exact hsz⟩)
  ·cases hp
 ·cases hp
theorem flatten_replicate_get {α:Type} (l:List α):∀(c j:Nat),j<c*l.length→(List.replicate c l).flatten[j]?=l[j%l.length]?
 |0,j,h=>by simp at h
 |c+1,j,h=>by
  have h':j<c*l.length+l.length:=by rw[Nat.add_mul] at h;omega
  rw[List.replicate_succ,List.flatten_cons];by_cases hj:j<l.length
  ·rw[List.getElem?_append_left hj,Nat.mod_eq_of_lt hj]
  ·rw[List.getElem?_append_right (by omega),flatten_replicate_get l c _ (by omega),show j%l.length=(j-l.length)%l.length from Nat.mod_eq_sub_mod (by omega)]
theorem sim_make {o:Oper} {t e:TypeId} {l c:Operand} {n b:Nat} {z:AVal} {vl vc u:AVal} {h':AHeap} (ho:o.op= .makeSlice t l c) (ht:C.P.underlying t=some (.slice e)) (hsz:tySize C.P e=some (n+1)) (hby:tyBytes C.P e=some (b+1)) (hz:tyZero C.P e=some z) (hl:opVal C σ l=some vl) (hc:opVal C σ c=some vc)
  (hm:hmake h (n+1) (b+1) z.cells vl vc=some (h',u)) (hr:Rel C γ0 w0 γ β σ h a w):Sim C γ0 w0 o a w (σ.put o.dst (.val u)) h':=by
 unfold hmake at hm;split at hm
 ·rename_i k m;split at hm
  ·rename_i hcond;obtain⟨c1,c2,c3,c4⟩:=hcond
   cases hm
   unfold tyZero at hz
   cases hi:C.P.info? e with
   |none=>rw[hi] at hz;cases hz
   |some i=>
    rw[hi] at hz
    cases hzv:i.zero with
    |none=>simp[hzv] at hz
    |some zv=>
     simp only[Option.bind_some,hzv] at hz;have his:=tySize_info hsz hi;have hib:=tyBytes_info hby hi;obtain⟨q1,q2⟩:=cells_rel (γ:=γ) (ofConst_rel hz) (by omega);have hzs:zv.cells.size=n+1:=by have:=q1.length;simp at this;omega
     have hmb:m.toNat*(b+1)≤maxBytes:=c3;have hmm:m.toNat≤maxBytes:=Nat.le_trans (Nat.le_mul_of_pos_right m.toNat (Nat.succ_pos b)) hmb;have hrun:=run_make (P:=C.P) w t e i zv ht hi hzv .i64 .i64 k m c1 c2 (by
      rw[hib];have e1:((b+1:Nat):Int)*m=((m.toNat*(b+1):Nat):Int):=by rw[Int.natCast_mul,Int.toNat_of_nonneg (by omega),Int.mul_comm]
      rw[e1];simp only[maxBytes] at hmb;omega) (by simp only[maxBytes] at hmm;omega)
     rw[←rel_int (opVal_rel hr hl),←rel_int (opVal_rel hr hc)] at hrun;have hlen:((List.replicate m.toNat z.cells).flatten).length=m.toNat*(n+1):=by rw[flatten_length (z:=n+1) (λr hr=>by rw[List.eq_of_mem_replicate hr,c4]),List.length_replicate]
     have hmc:∀(j:Nat) (u:Value),(madeCells zv.cells (m.toNat*i.size)).toList[j]?=some u→j<m.toNat*(n+1)∧zv.cells.toList[j%(n+1)]?=some u:=by
      intro j u hj;have hjl:j<m.toNat*(n+1):=by have:=(List.getElem?_eq_some_iff.1 hj).1;simpa[size_madeCells,his] using this
      refine⟨hjl,?_⟩;have hmod:j%(n+1)<zv.cells.size:=by rw[hzs];exact Nat.mod_lt _ (Nat.succ_pos n)
      simp only[madeCells,Array.toList_map,List.getElem?_map] at hj;have hrange:(Array.range (m.toNat*i.size)).toList[j]?=some j:=by simp[his,hjl]
      rw[hrange] at hj;simp only[Option.map_some,Option.some.injEq] at hj;rw[hzs] at hj;rw[←hj];simp[hmod]
     have hV:VRelV γ (List.replicate m.toNat z.cells).flatten (madeCells zv.cells (m.toNat*i.size)).toList:=by refine VRelV.of_get (by simp[hlen,size_madeCells,his]) λj x u hx hu=>?_;obtain⟨hjl,hju⟩:=hmc j u hu;rw[flatten_replicate_get z.cells _ _ (by rw[c4];exact hjl),c4] at hx;obtain⟨u',hu',hxr⟩:=q1.get hx;rw[hju] at hu';cases hu';exact hxr
     obtain⟨γ',hle,hm',hr',hszm⟩:=hr.newObj (madeCells zv.cells (m.toNat*i.size)) e (0,0) (List.replicate m.toNat z.cells).flatten (.inl rfl) (hV.of_take (by rw[hV.length];exact Nat.le_refl _)) (λu hu=>by obtain⟨j,hj⟩:=List.getElem?_of_mem (List.mem_of_mem_take hu);exact q2 u (List.mem_of_getElem? (hmc j u hj).2))
     exact Sim.value (by simp only[execOp,ho];exact run_value' hrun) (hr'.put λ_ _=>⟨w.heap.size,m.toNat,hm',rfl,by omega,⟨Nat.succ_pos n,by simp only[maxBytes] at hmm;simp only[maxLen];omega⟩,by rw[hszm,size_madeCells,his,Nat.zero_add]⟩)
  ·cases hm
 ·cases hm
theorem Rel.adopt (hr:Rel C γ0 w0 γ β σ h a w) {g:Nat} (hown:γ.own g=some (.tail σ.length none 0)) (hB:w0.heap.size≤g) {us:Array Value} {e:TypeId} (hg:w.heap[g]?=some (.cells us e (0,0))) (us':Array Value) (cs:List AVal)
  (hv:VRelV γ cs (us'.toList.take cs.length)) (h1:∀u∈us'.toList.take cs.length,u.oneCell'=true):∃γ',γ.le γ'∧γ'.mu h.length=some g∧Rel C γ0 w0 γ' β σ (h++[.cells cs]) a (w.setRow g us')∧γ'.sz g=some us'.size:=by
 have hmu:γ.mu h.length=none:=by
  cases hc:γ.mu h.length with
  |none=>rfl
  |some y=>exact absurd (hr.inv.mu _ y hc) (Nat.lt_irrefl _)
 have hsz:γ.sz g=none:=by
  cases hc:γ.sz g with
  |none=>rfl
  |some y=>obtain⟨_,r⟩:=hr.inv.sz g y hc;rw[hown] at r;rcases r with r|⟨_,r⟩<;>cases r
 have hle:γ.le (γ.object g h.length (some us'.size)):=⟨λ_ _ _ hv=>hv,λid b hm=>by
  have:id≠h.length:=λhe=>by rw[he,hmu] at hm;cases hm
  simp only[Gh.object,if_neg this];exact hm,λb n hm=>by
  have:b≠g:=λhe=>by rw[he,hsz] at hm;cases hm
  simp only[Gh.object,if_neg this];exact hm⟩
 have hszi:∀b n,(γ.object g h.length (some us'.size)).sz b=some n→(∃us e fr,(w.setRow g us').heap[b]?=some (.cells us e fr)∧us.size=n)∧((γ.object g h.length (some us'.size)).own b=none∨∃id,(γ.object g h.length (some us'.size)).own b=some (.obj id)):=λb n hb=>by
  by_cases he:b=g
  ·subst he;simp only[Gh.object,if_true] at hb
   cases hb
   exact⟨⟨us',e,(0,0),setRow_heap w b us us' e (0,0) hg,rfl⟩,.inr ⟨h.length,by simp[Gh.object]⟩⟩
  ·simp only[Gh.object,if_neg he] at hb⊢;obtain⟨p,r⟩:=hr.inv.sz b n hb;exact⟨by rw[setRow_other w g b us' he];exact p,r⟩
 have hne:∀b id,γ.own b=some (.obj id)→b≠g:=λb id hb he=>by rw[he,hown] at hb;cases hb
 have hk:KeptBut g γ w (γ.object g h.length (some us'.size)) (w.setRow g us'):=⟨hle,λb x hb hx _=>⟨by simp only[Gh.object,if_neg hb];exact hx,setRow_other w g b us' hb⟩⟩;refine⟨_,hle,by simp[Gh.object],⟨⟨λb o v hb=>?_,λid y hid hy=>?_,λid cs' hc b hb=>?_,λid es hc b hb=>?_,λid b hb=>?_,λb y hy=>?_,hszi⟩,⟨hr.fr.size,λs=>?_⟩,hr.acc.write (g:=g) hB hle (by simp) rfl rfl rfl (λb hb=>⟨setRow_other w g b us' hb,by simp only[Gh.object,if_neg hb]⟩),hr.defers,λx cs' hx=>VRelM.mono hle _ _ _ (hr.glob x cs' hx)⟩,by simp[Gh.object]⟩
 ·obtain⟨p,q,r⟩:=hr.inv.imm b o v hb;have hbe:b≠g:=λhe=>by
   subst he;rw[hown] at r;rcases r with r|⟨_,_,_,r,hl⟩
   ·cases r
   ·cases r;omega
  exact⟨by rw[cell?_of_heap (setRow_other w g b us' hbe)];exact p,q,by simp only[Gh.object,if_neg hbe];exact r⟩
 ·by_cases he:id=h.length
  ·exact⟨g,by simp[Gh.object,he],by simp[Gh.object,he]⟩
  ·have hid':id<h.length:=by rw[List.getElem?_eq_some_iff] at hid;obtain⟨hl,_⟩:=hid;simp at hl;omega
   rw[List.getElem?_append_left hid'] at hid;obtain⟨b,p,q⟩:=hr.inv.obj id y hid hy;exact⟨b,by simp only[Gh.object,if_neg he];exact p,by simp only[Gh.object,if_neg (hne b id q)];exact q⟩
 ·by_cases he:id=h.length
  ·subst he;simp[Gh.object] at hb;subst hb;simp at hc;subst hc;exact⟨us',e,(0,0),setRow_heap w g us us' e (0,0) hg,.inl rfl,VRelV.mono hle _ _ hv,h1⟩
  ·simp only[Gh.object,if_neg he] at hb;have hid':=hr.inv.mu id b hb;rw[List.getElem?_append_left hid'] at hc;obtain⟨b',p1,p2⟩:=hr.inv.obj id _ hc (by simp);rw[hb] at p1;cases p1;obtain⟨us2,e2,fr2,p,pf,q,r⟩:=hr.inv.cells id cs' hc b hb;exact⟨us2,e2,fr2,by rw[setRow_other w g b us' (hne b id p2)];exact p,pf,VRelV.mono hle _ _ q,r⟩
 ·by_cases he:id=h.length
  ·subst he;simp at hc
  ·simp only[Gh.object,if_neg he] at hb;have hid':=hr.inv.mu id b hb;rw[List.getElem?_append_left hid'] at hc;obtain⟨b',p1,p2⟩:=hr.inv.obj id _ hc (by simp);rw[hb] at p1;cases p1;obtain⟨ents,clock,p,q⟩:=hr.inv.map id es hc b hb;exact⟨ents,clock,by rw[setRow_other w g b us' (hne b id p2)];exact p,q.mono hle⟩
 ·by_cases he:id=h.length
  ·simp[he]
  ·simp only[Gh.object,if_neg he] at hb;have:=hr.inv.mu id b hb;simp;omega
 ·by_cases hbe:b=g
  ·subst hbe;have:=hr.inv.own _ _ hown;simpa using this
  ·simp only[Gh.object,if_neg hbe] at hy;have:=hr.inv.own b y hy;simpa using this
 ·by_cases hs:s=σ.length
  ·subst hs;rw[Env.at_length];trivial
  ·exact(hr.fr.slots s).keptBut hown hk (by simp only[Owner.slot];intro hx;cases hx;exact hs rfl)
theorem Rel.frz (hr:Rel C γ0 w0 γ β σ h a w) {v v':AVal} {u:Value} {h':AHeap} (hv:VRel γ v u) (hf:hfrz h v=some (h',v')):∃γ',γ.le γ'∧Rel C γ0 w0 γ' β σ h' a w∧VRel γ' v' u:=by
 unfold hfrz at hf;split at hf
 ·rename_i id off n z;obtain⟨b,cap,hb,hu,hc,hz,hsz⟩:=hv;split at hf
  ·rename_i cs hcs;split at hf
   ·rename_i hl
    cases hf
    obtain⟨us,e,fr,p1,pf,p2,p3⟩:=hr.inv.cells id cs hcs b hb;obtain⟨hi,ha⟩:=free_obj hr.inv hcs hb p1 p3;have hrl:∀(k o:Nat),(rowsFrom cs z o k).length=k:=by
     intro k
     induction k with
     |zero=>intro o;rfl
     |succ k ih=>intro o;simp[rowsFrom,ih]
    have hrg:∀(k o i:Nat) (r:List AVal),(rowsFrom cs z o k)[i]?=some r→i<k∧r=(cs.drop (o+i*z)).take z:=by
     intro k
     induction k with
     |zero=>intro o i r h;simp[rowsFrom] at h
     |succ k ih=>
      intro o i r h
      cases i with
      |zero=>simp[rowsFrom] at h;exact⟨Nat.succ_pos _,by simpa using h.symm⟩
      |succ i=>simp[rowsFrom] at h;obtain⟨q1,q2⟩:=ih _ _ _ h;exact⟨by omega,by rw[q2];congr 2;rw[Nat.add_mul];omega⟩
    refine⟨_,ha.le,hr.world hi ha,⟨b,off,none⟩,cap,by rw[hrl];exact hu,by rw[hrl];exact hc,.inl rfl,VRelR.of_get λi r hir=>?_⟩;obtain⟨q1,rfl⟩:=hrg n off i r hir;have hiz:i*z+z≤n*z:=by
     have:=Nat.mul_le_mul_right z (show i+1≤n by omega)
     rwa [Nat.add_mul,Nat.one_mul] at this
    refine⟨by simp;omega,VRelM.of_get λj x hj=>?_⟩;rw[List.getElem?_take] at hj;split at hj
    ·rename_i hjz;rw[List.getElem?_drop] at hj;obtain⟨y,hy,hxy⟩:=p2.get hj;have hlt:off+i*z+j<cs.length:=(List.getElem?_eq_some_iff.1 hj).1;refine⟨y,?_,VRel.mono ha.le _ _ hxy⟩;simp only[Gh.claim,if_true,if_pos hlt];rw[List.getElem?_take_of_lt hlt] at hy;simpa using hy
    ·cases hj
   ·cases hf
  ·cases hf
 ·cases hf
  exact⟨γ,.refl _,hr,hv⟩
theorem bytesOf_ints:∀{rows:List (List AVal)} {s:Bytes},bytesOf rows=some s→∃ns:List Int,rows=ns.map (λn=>[.int .u8 n])∧s=ns.map λn=>UInt8.ofNat n.toNat
 |[],s,hs=>by cases hs;exact⟨[],rfl,rfl⟩
 |r::rows,s,hs=>by
  unfold bytesOf at hs;split at hs
  ·rename_i heq;cases heq
  ·rename_i n rs heq
   cases heq
   cases hq:bytesOf rows with
   |none=>rw[hq] at hs;cases hs
   |some l=>rw[hq] at hs;cases hs;obtain⟨ns,rfl,rfl⟩:=bytesOf_ints hq;exact⟨n::ns,rfl,rfl⟩
  ·cases hs
theorem foldl_push:∀(ns:List Int) (r:ByteArray),ns.foldl (λr n=>r.push (UInt8.ofNat n.toNat)) r=⟨r.data++(ns.map λn=>UInt8.ofNat n.toNat).toArray⟩
 |[],r=>by simp
 |n::ns,r=>by rw[List.foldl_cons,foldl_push ns];simp[ByteArray.push]
theorem sim_b2s {o:Oper} {src dst e:TypeId} {x:Operand} {v v' u:AVal} {h':AHeap} (ho:o.op= .convert src dst x) (hs:C.P.underlying src=some (.slice e)) (hd:C.P.underlying dst=some .string) (he:C.P.underlying e=some (.int .u8)) (hx:opVal C σ x=some v) (hf:hfrz h v=some (h',v')) (hp:peval .b2s [v']=some u)
  (hr:Rel C γ0 w0 γ β σ h a w):Sim C γ0 w0 o a w (σ.put o.dst (.val u)) h':=by
 obtain⟨γ',hle,hr',hv'⟩:=hr.frz (opVal_rel hr hx) hf;have hex:∀s,(Conv.bytesToString (a.eval x)).run C.P w= .ok s w→(∃p l c,a.eval x= .slice p l c)→(execOp a.eval o).run C.P w= .ok (.value s) w:=λs hrun ⟨p,l,c,hsl⟩=>by simp only[execOp,ho];refine run_value' ?_;rw[hsl] at hrun⊢;rw[run_convert_bytes_string w src dst e p l c hs he hd];exact hrun
 simp only[peval] at hp;unfold textOf at hp;split at hp
 ·rename_i rows
  cases hq:bytesOf rows with
  |none=>rw[hq] at hp;cases hp
  |some s=>
   rw[hq] at hp;cases hp;obtain⟨ns,rfl,rfl⟩:=bytesOf_ints hq;obtain⟨ad,cap,hsl,hc,hsp,hR⟩:=hv';have hadd:∀(j:Nat) (v:Value),(ns.map (Value.int .u8))[j]?=some v→ad.add j=⟨ad.block,ad.off+j,none⟩:=λj v hj=>by
    have hpos:0<ns.length:=by have:=(List.getElem?_eq_some_iff.1 hj).1;simp at this;omega
    have had:=plain_addr hsp hc (by simpa using hpos);generalize ad.block=b at*;generalize ad.off=o at*;subst had;unfold Addr.add;split<;>simp_all
   have hl:=run_loadCells_list (P:=C.P) w ad (ns.map (Value.int .u8)) (λj v hj=>by
    rw[hadd j v hj];simp only[List.getElem?_map] at hj
    cases hn:ns[j]? with
    |none=>rw[hn] at hj;cases hj
    |some n=>rw[hn] at hj;cases hj;obtain⟨_,hM⟩:=hR.get (i:=j) (r:=[.int .u8 n]) (by simp[hn]);obtain⟨y,hy,hyr⟩:=hM.get (i:=0) (a:= .int .u8 n) rfl;rw[show y=_ from hyr] at hy;have:=(hr'.inv.imm _ _ _ hy).1;simpa using this)
   simp only[List.length_map] at hl;have hrun:=run_bytesToString (P:=C.P) w ad ns.length cap ns hl;have he0:ByteArray.empty.data=#[]:=rfl;rw[foldl_push,he0,Array.empty_append] at hrun;have e1:a.eval x= .slice (some ad) ns.length cap:=by rw[hsl];simp
   rw[←e1] at hrun;exact Sim.value (hex _ hrun ⟨_,_,_,e1⟩) (hr'.put λ_ _=>rfl)
 ·cases hp
  have e1:a.eval x= .slice none 0 0:=hv';have hrun:(Conv.bytesToString (a.eval x)).run C.P w= .ok (.string ⟨⟨[]⟩⟩) w:=by rw[e1];simp[Conv.bytesToString];rfl
  exact Sim.value (hex _ hrun ⟨_,_,_,e1⟩) (hr'.put λ_ _=>rfl)
 ·cases hp
def InsOk (C:Ctx) (f:FuncId):Prop:=
 (∃fn c,C.P.funcs[f]?=some fn∧(fn.name== "runtime.NumGoroutine")=false∧fn.body=some c)∧
 ∀(γ:Gh) (h:AHeap) (w:World) (s:AVal) (sv:Value) (i x:Int) (h':AHeap) (r:AVal) (g vcap:Nat) (us:Array Value) (e:TypeId),Inv γ h w→VRel γ s sv→gInsert h [s,.int .i64 i,.sl 1 [[.int .i64 x]]]=some (h',r)→
  w.heap[g]?=some (.cells us e (0,0))→us[0]?=some (.int .i64 x)→(∀id,γ.own g≠some (.obj id))→1≤vcap→us.size=vcap→
  Calls C.P f #[sv,.int .i64 i,.slice (some ⟨g,0,none⟩) 1 vcap] w λe w'=>match e with
   | .returned v=>∃γ',Inv γ' h' w'∧Acc γ w γ' w'∧VRel γ' r v
   |_=>False
def SimCalls (C:Ctx) (run:IT→AHeap→Option Res):Prop:=
 ((∀g cs,C.glob g=some cs→cs.all AVal.flat=true)∧∀f,C.ins f=true→InsOk C f)∧
 ∀(f:FuncId) (args:List AVal) (h:AHeap) (r:AVal) (h':AHeap),run (afun C f args) h=some (.ret,[r],h')→
  (∃fn c,C.P.funcs[realOf f]?=some fn∧(fn.name== "runtime.NumGoroutine")=false∧fn.body=some c)∧
  ∀(γ:Gh) (w:World) (cargs:Array Value),Inv γ h w→(∀g cs,C.glob g=some cs→VRelM γ cs g 0)→VRelV γ args cargs.toList→
   Calls C.P (realOf f) cargs w λe w'=>match e with
    | .returned v=>∃γ',Inv γ' h' w'∧Acc γ w γ' w'∧VRel γ' r v∧(C.ownRet f=true→∃s c,OwnT γ' w.heap.size w' s c v r)
    |_=>False
theorem Rel.back (hr:Rel C γ0 w0 γ β σ h a w) {h':AHeap} {r:AVal} {v:Value} (hi:Inv γ' h' w') (ha:Acc γ w γ' w') (hv:VRel γ' r v) {own:Bool} (ho:own=true→∃s c,OwnT γ' w.heap.size w' s c v r) (d:Option Nat):
  ∃γ2,Rel C γ0 w0 γ2 β (σ.put d (if own then .own r else .val r)) h' (a.put d v) w':=by
 cases own with
 |false=>exact⟨γ',(hr.world hi ha).put λ_ _=>hv⟩
 |true=>
  obtain⟨s,c,hT⟩:=ho rfl;rcases hT with hT|⟨g,n,cap,us,e,z,rows,rfl,h2,h3,h4,h5⟩
  ·exact⟨γ',(hr.world hi ha).put λ_ _=>⟨hv,.inl hT⟩⟩
  ·have ha':Acc γ w (γ'.retag g (.tail σ.length none (n*z))) w':=⟨ha.le.trans (le_retag _ _ _),ha.size,ha.os,ha.tape,ha.output,λb hb hn=>by obtain⟨p,q⟩:=ha.keep b hb hn;exact⟨p,by simp only[Gh.retag,if_neg (show b≠g by omega)];exact q⟩⟩
   have hr':=hr.world (hi.retag (s':=σ.length) (c':=none) h3) ha';exact hr'.putOwn (VRel.mono (le_retag _ _ _) _ _ hv) (.inr ⟨g,n,cap,us,e,z,rows,rfl,h2,by simp[Gh.retag],Nat.le_trans hr.acc.size h4,h5⟩) d
theorem run_callFunc_body {P:Program} {f:FuncId} {fn:Func} {c:Code} (hf:P.funcs[f]?=some fn) (hname:(fn.name== "runtime.NumGoroutine")=false) (hb:fn.body=some c) (args:Array Value) (w:World):
  (callFunc f args).run P w= .ok (.enter f args) w:=by
 have hn:¬fn.name= "runtime.NumGoroutine":=by simpa using hname
 simp[callFunc,hf,hn,hb]
theorem wp_enter {o:Oper} {f:FuncId} {cargs:Array Value} {K:Act→World→Prop} {Q:Exit→Act→World→Prop} (he:(execOp a.eval o).run C.P w= .ok (.enter f cargs) w) {R:Value→World→Prop}
  (hc:Calls C.P f cargs w λe w'=>match e with| .returned v=>R v w'|_=>False) (hk:∀v w',R v w'→K (a.put o.dst v) w'):o.wp C.P a w K Q:=by
 unfold Oper.wp;rw[he];refine hc.mono λe w' h=>?_
 cases e with
 |returned v=>exact hk v w' h
 |_=>exact h.elim
theorem sim_call {run:IT→AHeap→Option Res} (hS:SimCalls C run) {o:Oper} {c:Call} {f:FuncId} {args:List AVal} {r:AVal} {h':AHeap} {K:Act→World→Prop} {Q:Exit→Act→World→Prop} (ho:o.op= .call c) (hcl:c.callee= .value (.func (realOf f))) (ha:opVals C σ c.args.toList=some args)
  (hrun:run (afun C f args) h=some (.ret,[r],h')) (hr:Rel C γ0 w0 γ β σ h a w) (hK:∀γ' v w',Rel C γ0 w0 γ' β (σ.put o.dst (if C.ownRet f then .own r else .val r)) h' (a.put o.dst v) w'→K (a.put o.dst v) w'):o.wp C.P a w K Q:=by
 obtain⟨⟨fn,cd,hf,hname,hb⟩,hcalls⟩:=hS.2 f args h r h' hrun;have hcargs:VRelV γ args (c.args.map a.eval).toList:=by simpa using opVals_rel hr ha
 refine wp_enter (f:=realOf f) (cargs:=c.args.map a.eval) ?_ (hcalls γ w _ hr.inv hr.glob hcargs) λv w' ⟨γ',hi,hacc,hv,hown⟩=>?_
 ·have h0:a.eval (.func (realOf f))= .func (.func (realOf f)) #[] #[]:=rfl;simp only[execOp,ho,resolve,hcl,Deferred.ofValue,h0,Sem.run_bind,Sem.run_pure,Result.andThen_ok,invoke];simpa using run_callFunc_body hf hname hb (c.args.map a.eval) w
 ·obtain⟨γ2,hr2⟩:=hr.back hi hacc hv hown o.dst;exact hK γ2 v w' hr2
theorem sim_ins {run:IT→AHeap→Option Res} (hS:SimCalls C run) {o:Oper} {c:Call} {f:FuncId} {s i x:Operand} {args:List AVal} {r:AVal} {h':AHeap} {K:Act→World→Prop} {Q:Exit→Act→World→Prop} (ho:o.op= .call c) (hcl:c.callee= .value (.func f)) (hf:C.ins f=true) (hargs:c.args.toList=[s,i,x]) (hown:isOwn C σ x=true)
  (ha:opVals C σ [s,i,x]=some args) (hp:gInsert h args=some (h',r)) (hr:Rel C γ0 w0 γ β σ h a w) (hK:∀γ' v w',Rel C γ0 w0 γ' β (σ.put o.dst (.val r)) h' (a.put o.dst v) w'→K (a.put o.dst v) w'):o.wp C.P a w K Q:=by
 obtain⟨⟨fn,cd,hfn,hname,hb⟩,hins⟩:=hS.1.2 f hf;have hvv:=opVals_rel hr ha;obtain⟨u1,us1,f1,g1,f2⟩:∃u1 us1,[a.eval s,a.eval i,a.eval x]=u1::us1∧VRel γ (args.getD 0 .nilIface) u1∧True:=by
  cases args with
  |nil=>cases hvv
  |cons y l=>obtain⟨u,us,e,p,q⟩:=hvv;exact⟨u,us,e,p,trivial⟩
 obtain⟨s',i',x',he,k,xx,hx'⟩:∃s' i' x',args=[s',.int .i64 i',.sl 1 [[.int .i64 x']]]∧∃(k:VRel γ s' (a.eval s)) (xx:a.eval i= .int .i64 i'),VRel γ (.sl 1 [[.int .i64 x']]) (a.eval x):=by
  unfold gInsert at hp;split at hp
  ·obtain⟨_,_,_,e,p1,p2,p3⟩:=hvv.three;simp only[List.map_cons,List.map_nil,List.cons.injEq,and_true] at e;obtain⟨rfl,rfl,rfl⟩:=e;exact⟨_,_,_,rfl,p1,p2,p3⟩
  ·obtain⟨_,_,_,e,p1,p2,p3⟩:=hvv.three;simp only[List.map_cons,List.map_nil,List.cons.injEq,and_true] at e;obtain⟨rfl,rfl,rfl⟩:=e;exact⟨_,_,_,rfl,p1,p2,p3⟩
  ·cases hp
 subst he;have hvx:opVal C σ x=some (.sl 1 [[.int .i64 x']]):=by
  simp only[opVals] at ha
  cases h1:opVal C σ s<;>cases h2:opVal C σ i<;>cases h3:opVal C σ x<;>simp_all
 obtain⟨sl,hsl⟩:∃sl,opSlot C σ x=some sl:=by
  unfold isOwn at hown
  cases hs:opSlot C σ x with
  |none=>rw[hs] at hown;cases hown
  |some sl=>exact⟨sl,rfl⟩
 have hsl':∃v,sl= .own v:=by
  unfold isOwn at hown;rw[hsl] at hown
  cases sl<;>first|exact⟨_,rfl⟩|cases hown
 obtain⟨v,rfl⟩:=hsl';obtain⟨s0,hrel,_⟩:=opSlot_any hr hsl;have hveq:v= .sl 1 [[.int .i64 x']]:=by simp only[opVal,hsl,Option.bind_some,Slot.value?,Option.some.injEq] at hvx;exact hvx
 subst hveq;obtain⟨hvr,hT⟩:=hrel;rcases hT with(hT|⟨_,hT⟩)|⟨g,n,cap,us,e,z,rows,h1,h2,h3,h4,h5,h6,h7,h8,h9⟩
 ·cases hT
 ·cases hT
 ·cases h1
  obtain⟨ad,cap2,e1,e2,e3,e4⟩:=hx';rw[h2] at e1
  cases e1
  obtain⟨_,hm,_⟩:=e4;obtain⟨⟨u,hu,hru⟩,_⟩:=hm;obtain⟨hcell,_,_⟩:=hr.inv.imm _ _ _ hu;have hus:us[0]?=some (.int .i64 x'):=by rw[cell_of_row w _ _ us e (0,0) h5] at hcell;rw[hcell];exact congrArg some hru
  have hcargs:c.args.map a.eval=#[a.eval s,.int .i64 i',.slice (some ⟨g,0,none⟩) 1 cap]:=by apply Array.ext';simp only[Array.toList_map,hargs,List.map_cons,List.map_nil,xx,h2];rfl
  have hcc:=hins γ h w s' _ i' x' h' r g cap us e hr.inv k hp h5 hus (λid hid=>by rw[h3] at hid;cases hid) h7 (by rw[h6,Nat.mul_one]);rw[←hcargs] at hcc;refine wp_enter (f:=f) (cargs:=c.args.map a.eval) ?_ hcc λv w' ⟨γ',hi,hacc,hv⟩=>?_
  ·have h0:a.eval (.func f)= .func (.func f) #[] #[]:=rfl;simp only[execOp,ho,resolve,hcl,Deferred.ofValue,h0,Sem.run_bind,Sem.run_pure,Result.andThen_ok,invoke];simpa using run_callFunc_body hfn hname hb (c.args.map a.eval) w
  ·obtain⟨γ2,hr2⟩:=hr.back (own:=false) hi hacc hv (λe=>by cases e) o.dst;exact hK γ2 v w' (by simpa using hr2)
def Gh.apart (γ:Gh):Gh:={imm:=γ.imm,mu:=λ_=>none,own:=λb=>match γ.own b with|some (.obj _)=>none|x=>x,sz:=γ.sz}
theorem Inv.apart (hi:Inv γ h w):Inv γ.apart [] w:=by
 refine⟨λb o v hb=>?_,λid x hx=>by simp at hx,λid cs hx=>by simp at hx,λid es hx=>by simp at hx,λid b hb=>(by cases hb),λb x hx=>?_,λb n hb=>?_⟩;rotate_left 2
 ·obtain⟨p,r⟩:=hi.sz b n hb;refine⟨p,.inl ?_⟩;simp only[Gh.apart];rcases r with r|⟨_,r⟩<;>rw[r]
 ·obtain⟨p,q,r⟩:=hi.imm b o v hb;refine⟨p,q,?_⟩;simp only[Gh.apart];rcases r with r|⟨s,c,st,r,hl⟩
  ·exact .inl (by rw[r])
  ·exact .inr ⟨s,c,st,by rw[r],hl⟩
 ·simp only[Gh.apart] at hx;split at hx
  ·cases hx
  ·exact hi.own b x hx
theorem Rel.besides (hr:Rel C γ0 w0 γ β σ h a w) {γ1:Gh} {h1:AHeap} (hi:Inv γ1 h1 w') (ha:Acc γ.apart w γ1 w'):∃γ2,Rel C γ0 w0 γ2 β σ h a w':=by
 have hno:∀b id,γ.apart.own b≠some (.obj id):=λb id e=>by
  simp only[Gh.apart] at e;split at e
  ·cases e
  ·rename_i hn;exact hn id e
 have hsame:∀b,b<w.heap.size→w'.heap[b]?=w.heap[b]?:=λb hb=>(ha.keep b hb (hno b)).1;refine⟨γ,hr.world ⟨λb o v hb=>?_,hr.inv.obj,λid cs hc b hb=>?_,λid es hc b hb=>?_,hr.inv.mu,λb x hx=>Nat.lt_of_lt_of_le (hr.inv.own b x hx) ha.size,λb n hb=>(by
   obtain⟨⟨us,e,fr,p,q⟩,r⟩:=hr.inv.sz b n hb;exact⟨⟨us,e,fr,by rw[hsame b (Array.getElem?_eq_some_iff.1 p).1];exact p,q⟩,r⟩)⟩
  ⟨.refl _,ha.size,ha.os,ha.tape,ha.output,λb hb _=>⟨hsame b hb,rfl⟩⟩⟩
 ·obtain⟨p,q,r⟩:=hr.inv.imm b o v hb;exact⟨by rw[cell?_of_heap (hsame b (lt_of_cell p))];exact p,q,r⟩
 ·obtain⟨us,e,fr,p,q⟩:=hr.inv.cells id cs hc b hb;exact⟨us,e,fr,by rw[hsame b (Array.getElem?_eq_some_iff.1 p).1];exact p,q⟩
 ·obtain⟨ents,clock,p,q⟩:=hr.inv.map id es hc b hb;exact⟨ents,clock,by rw[hsame b (Array.getElem?_eq_some_iff.1 p).1];exact p,q⟩
theorem flat_rel {γ γ':Gh} {x:AVal} {v:Value} (hf:x.flat=true) (hv:VRel γ x v):VRel γ' x v:=by cases x<;>first|exact hv|cases hf
theorem flats_rel {γ γ':Gh}:∀{l:List AVal} {us:List Value},l.all AVal.flat=true→VRelV γ l us→VRelV γ' l us
 |[],us,_,h=>h
 |x::l,us,hf,h=>by obtain⟨u,us',e,h1,h2⟩:=h;simp only[List.all_cons,Bool.and_eq_true] at hf;exact⟨u,us',e,flat_rel hf.1 h1,flats_rel hf.2 h2⟩
theorem VRelM.apart {γ:Gh}:∀{l:List AVal} {b o:Nat},VRelM γ l b o→l.all AVal.flat=true→VRelM γ.apart l b o
 |[],_,_,_,_=>trivial
 |x::l,b,o,h,hf=>by obtain⟨⟨u,h1,h2⟩,h3⟩:=h;simp only[List.all_cons,Bool.and_eq_true] at hf;exact⟨⟨u,h1,flat_rel hf.1 h2⟩,h3.apart hf.2⟩
theorem sim_pcall {run:IT→AHeap→Option Res} (hS:SimCalls C run) {o:Oper} {c:Call} {f:FuncId} {args:List AVal} {r:AVal} {h1:AHeap} {K:Act→World→Prop} {Q:Exit→Act→World→Prop} (ho:o.op= .call c) (hcl:c.callee= .value (.func (realOf f))) (ha:opVals C σ c.args.toList=some args)
  (hfa:args.all AVal.flat=true) (hrun:run (afun C f args) []=some (.ret,[r],h1)) (hfr:r.flat=true) (hr:Rel C γ0 w0 γ β σ h a w) (hK:∀γ' v w',Rel C γ0 w0 γ' β (σ.put o.dst (.val r)) h (a.put o.dst v) w'→K (a.put o.dst v) w'):o.wp C.P a w K Q:=by
 obtain⟨⟨fn,cd,hf,hname,hb⟩,hcalls⟩:=hS.2 f args [] r h1 hrun;have hcargs:VRelV γ.apart args (c.args.map a.eval).toList:=flats_rel hfa (by simpa using opVals_rel hr ha);refine wp_enter (f:=realOf f) (cargs:=c.args.map a.eval) ?_ (hcalls γ.apart w _ hr.inv.apart (λg cs hg=>(hr.glob g cs hg).apart (hS.1.1 g cs hg)) hcargs) λv w' ⟨γ',hi,hacc,hv,_⟩=>?_
 ·have h0:a.eval (.func (realOf f))= .func (.func (realOf f)) #[] #[]:=rfl;simp only[execOp,ho,resolve,hcl,Deferred.ofValue,h0,Sem.run_bind,Sem.run_pure,Result.andThen_ok,invoke];simpa using run_callFunc_body hf hname hb (c.args.map a.eval) w
 ·obtain⟨γ2,hr2⟩:=hr.besides hi hacc;exact hK γ2 v w' (hr2.put λ_ _=>flat_rel hfr hv)
theorem sim_callv {run:IT→AHeap→Option Res} (hS:SimCalls C run) {o:Oper} {c:Call} {g:Operand} {gv:AVal} {f:FuncId} {args args':List AVal} {r:AVal} {h':AHeap} {K:Act→World→Prop} {Q:Exit→Act→World→Prop} (ho:o.op= .call c) (hcl:c.callee= .value g) (hg:opVal C σ g=some gv)
  (ha:opVals C σ c.args.toList=some args) (ht:targetOf gv args=some (f,args')) (hrun:run (afun C f args') h=some (.ret,[r],h')) (hr:Rel C γ0 w0 γ β σ h a w) (hK:∀γ' v w',Rel C γ0 w0 γ' β (σ.put o.dst (.val r)) h' (a.put o.dst v) w'→K (a.put o.dst v) w'):o.wp C.P a w K Q:=by
 obtain⟨⟨fn,cd,hf,hname,hb⟩,hcalls⟩:=hS.2 f args' h r h' hrun;have hgv:=opVal_rel hr hg;unfold targetOf at ht;split at ht
 ·rename_i f0 first captured
  split at ht;rotate_left
  ·cases ht
  rename_i hf0
  cases ht
  rw[show realOf f=f from if_pos hf0] at hf hcalls;obtain⟨fs,cs,hge,h1,h2⟩:=hgv;have hcargs:VRelV γ (first++args++captured) (fs++c.args.map a.eval++cs).toList:=by simpa using(h1.append (opVals_rel hr ha)).append h2
  refine wp_enter (f:=f) (cargs:=fs++c.args.map a.eval++cs) ?_ (hcalls γ w _ hr.inv hr.glob hcargs) λv w' ⟨γ',hi,hacc,hv,hown⟩=>?_
  ·simp only[execOp,ho,resolve,hcl,Deferred.ofValue,hge,Sem.run_bind,Sem.run_pure,Result.andThen_ok,invoke];exact run_callFunc_body hf hname hb _ w
  ·obtain⟨γ2,hr2⟩:=hr.back (own:=false) hi hacc hv (λe=>by cases e) o.dst;exact hK γ2 v w' (by simpa using hr2)
 ·cases ht
end
end Go.Am
end
