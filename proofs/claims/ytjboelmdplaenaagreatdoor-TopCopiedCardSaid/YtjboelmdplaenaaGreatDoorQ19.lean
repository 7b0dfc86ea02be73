/- Lemmas -/
import Derived.Test.YtjboelmdplaenaaGreatDoorQ18
import Derived.Laws.EntriesVeiled
set_option linter.unusedVariables false
set_option linter.unusedSimpArgs false
section
namespace Go.Am
open Go Go.RowKit Go.Shelf
def gPost (I:Nat→Gh→World→Prop) (i:Nat) (γ:Gh) (W:World):Exit→Act→World→Prop
 | .normal,_,W'=>∃γ',I (i+1) γ' W'∧Acc γ W γ' W'
 |_,_,_=>False
theorem wpIn_range_g {P:Program} {n gf:Nat} {lb:Array Value} {g:Operand} {ps:Array Tmp} {assign body:Code} {Q:Exit→Act→World→Prop} {a:Act} {w:World} {γ:Gh} (l:List Int) (I:Nat→Gh→World→Prop) (fh:Nat→AHeap)
  (hg:a.eval g= .func (.func gf) #[] lb) (eg:∀args w,(callFunc gf args).run P w= .ok (.enter gf args) w)
  (hIn:∀i γ W,I i γ W→Inv γ (fh i) W)
  (hIb:∀i γ A B,I i γ A→Below A.heap.size A B→I i γ B)
  (hIp:∀i γ A r o o',I i γ A→w.heap.size≤r→A.heap[r]?=some (.loop o)→I i γ (A.putObj r (.loop o')))
  (hseq:∀(lp:Nat) (J:Nat→Gh→World→Prop) (W:World),Below w.heap.size w W→(∀i γ A,J i γ A→I i γ A)→(∀i γ A A',J i γ A→Below A.heap.size A A'→J i γ A')→
   (∀i γ W1 (hi:i<l.length),J i γ W1→YieldAt Fence.wide (n-1 -1) P lp #[.int .i64 l[i]] W1 λe W'=>e= .returned (.bool true)∧∃γ',J (i+1) γ' W'∧Acc γ W1 γ' W')→J 1 γ W→
   CallsIn Fence.wide (n-1) P gf (#[.func (.yield lp) #[] #[]]++lb) W λe W'=>(∃v,e= .returned v)∧∃γ',J l.length γ' W'∧Acc γ W γ' W')
  (hps:ps.size=1) (h0:I 1 γ w) (a₁:Int→Act)
  (hassign:∀(lp:Nat) (x:Int) (W:World) (K:Act→World→Prop),K (a₁ x) W→
   assign.wpIn (Fence.wide.inRound lp) (n-1 -1) P (Exit.then K (λ_ _ _=>False)) {tmps:=(ps.zip #[.int .i64 x]).foldl (λt (p,v)=>t.setIfInBounds p v) a.tmps,defers:=[]} W)
  (hbody:∀(lp:Nat) (i:Nat) (γ':Gh) (W:World) (hi:i<l.length),I i γ' W→body.wpIn (Fence.wide.inRound lp) (n-1 -1) P (gPost I i γ' W) (a₁ l[i]) W)
  (hdone:∀(D:Nat) (γ':Gh) (W:World),I l.length γ' W→Acc γ w γ' W→W.heap[D]?=some (.deferred (some []))→w.heap.size≤D→Q .normal {a with defers:={target:= .collected D,args:=#[]}::a.defers} W):
  (Code.rangeFunc g ps assign body).wpIn Fence.wide n P Q a w:=by
 refine wpIn_rangeFunc ?_;intro fn hfn;have hro:Fence.wide.round=none:=rfl;rw[hro];obtain⟨rec,hrec⟩:∃rec:LoopState→Option Code→Loop,rec=λst pe=>{state:=st,pending:=pe,fn,tmps:=a.tmps,params:=ps,assign,body,defers:=w.heap.size}:=⟨_,rfl⟩;obtain⟨W1,hW1⟩:∃W1,(w.alloc (.deferred (some []))).alloc (.loop (rec .ready none))=W1:=⟨_,rfl⟩;have hL1:W1.heap[w.heap.size+1]?=some (.loop (rec .ready none)):=by rw[←hW1];have:=World.alloc_heap_new (w.alloc (.deferred (some []))) (.loop (rec .ready none));rwa [World.size_alloc] at this
 have hK1:W1.heap[w.heap.size]?=some (.deferred (some [])):=by rw[←hW1];exact(Below.heap_alloc _ _ _ (by simp)).trans (World.alloc_heap_new w _)
 have hb1:Below w.heap.size w W1:=by rw[←hW1];exact(((Below.refl _ w).alloc (Nat.le_refl _) _).alloc (by simp) _)
 have hI1:I 1 γ W1:=hIb _ _ _ _ h0 hb1;have a1:Acc γ w γ W1:=((hIn _ _ _ h0).of_below hb1).2;have hoL:∀k,w.heap.size≤k→γ.own k=none:=λk hk=>by
  cases hc:γ.own k with
  |none=>rfl
  |some y=>exact absurd ((hIn _ _ _ h0).own _ y hc) (by omega)
 refine⟨w.heap.size+1,[{target:= .collected w.heap.size,args:=#[]}],W1,{target:= .fn (.func gf) lb,args:=#[.func (.yield (w.heap.size+1)) #[] #[]]},W1,gf,
  #[.func (.yield (w.heap.size+1)) #[] #[]]++lb,W1,?_,?_,?_,?_,nofun,?_⟩
 ·rw[←hW1,hrec];exact run_enterLoop_outer _ _ _ _ _
 ·simp only[resolve,hg];simp[go_sem]
 ·intro f' hf';trivial
 ·simp[invoke,go_sem,eg]
 ·refine(hseq (w.heap.size+1)
   (λi γ' W=>I i γ' W∧W.heap[w.heap.size+1]?=some (.loop (rec .ready none))∧W.heap[w.heap.size]?=some (.deferred (some []))∧γ'.own (w.heap.size+1)=none∧γ'.own w.heap.size=none)
   W1 hb1 (λ_ _ _ h=>h.1)
   (λi γ' A B hs hb=>⟨hIb _ _ A B hs.1 hb,(hb.block _ (Array.getElem?_eq_some_iff.1 hs.2.1).1).trans hs.2.1,(hb.block _ (Array.getElem?_eq_some_iff.1 hs.2.2.1).1).trans hs.2.2.1,hs.2.2.2⟩)
   ?_ ⟨hI1,hL1,hK1,hoL _ (by omega),hoL _ (Nat.le_refl _)⟩).mono ?_
  ·rintro i γ' W hil ⟨hi,hl,hk,ol,ok⟩;have hlt:w.heap.size+1<W.heap.size:=(Array.getElem?_eq_some_iff.1 hl).1;have hy:=run_yield (P:=P) (args:=#[.int .i64 l[i]]) hl (by rw[hrec];exact hps.symm);rw[hrec] at hy;refine⟨fn,_,assign,body,hy,roundIn_of_wpIn hfn (hassign _ l[i] W _ ⟨_,run_beginRound hl (by rw[hrec]),?_⟩)⟩;have hl2:(W.putObj (w.heap.size+1) (.loop {rec .ready none with state:= .busy})).heap[w.heap.size+1]?=some (.loop {rec .ready none with state:= .busy}):=World.putObj_heap_same hlt;have hk2:(W.putObj (w.heap.size+1) (.loop {rec .ready none with state:= .busy})).heap[w.heap.size]?=some (.deferred (some [])):=(World.putObj_heap_other (by omega)).trans hk;refine wpIn_mono (hbody _ i γ' _ hil (hIp _ _ _ _ _ _ hi (by omega) hl)) ?_;rintro e a3 W3 hp
   cases e with
   |normal=>
    obtain⟨γ3,hi3,acc3⟩:=hp;have nL:∀id,γ'.own (w.heap.size+1)≠some (.obj id):=λid e=>by rw[ol] at e;cases e
    have nD:∀id,γ'.own w.heap.size≠some (.obj id):=λid e=>by rw[ok] at e;cases e
    have kL:=acc3.keep (w.heap.size+1) (Array.getElem?_eq_some_iff.1 hl2).1 nL;have kD:=acc3.keep w.heap.size (Array.getElem?_eq_some_iff.1 hk2).1 nD;have hl3:=kL.1.trans hl2;have hr:=run_endRound (P:=P) none hl3;rw[hrec] at hr hl3;have hl4:(W3.putObj (w.heap.size+1) (.loop (rec .ready none))).heap[w.heap.size+1]?=some (.loop (rec .ready none)):=World.putObj_heap_same (Array.getElem?_eq_some_iff.1 hl3).1;have hk4:(W3.putObj (w.heap.size+1) (.loop (rec .ready none))).heap[w.heap.size]?=some (.deferred (some [])):=(World.putObj_heap_other (by omega)).trans (kD.1.trans hk2);have hi4:I (i+1) γ3 (W3.putObj (w.heap.size+1) (.loop (rec .ready none))):=hIp _ _ _ _ _ _ hi3 (by omega) hl3;have acc4:Acc γ' W γ3 (W3.putObj (w.heap.size+1) (.loop (rec .ready none))):=by
     refine⟨acc3.le,?_,acc3.os,acc3.tape,acc3.output,λb hb hn=>?_⟩
     ·have:=acc3.size;simpa using this
     ·obtain⟨p,q⟩:=acc3.keep b (by simpa using hb) hn;refine⟨?_,q⟩;by_cases e:b=w.heap.size+1
      ·subst e;rw[hl4,hl]
      ·rw[World.putObj_heap_other e,p,World.putObj_heap_other e]
    rw[hrec] at hl4 hk4 hi4 acc4;refine⟨_,_,hr,rfl,γ3,⟨hi4,?_,hk4,kL.2.trans ol,kD.2.trans ok⟩,acc4⟩;rw[hrec];exact hl4
   |ret=>exact hp.elim
   |exit id=>exact hp.elim
   |goto t=>exact hp.elim
   |panic ch=>exact hp.elim
   |outgrown=>exact hp.elim
  ·rintro e W2 ⟨⟨v,rfl⟩,γ',⟨hi,hl,hk,ol,ok⟩,acc⟩;refine⟨none,_,by have:=run_endLoop (P:=P) hl (by rw[hrec];simp);rw[hrec] at this;exact this,hdone _ γ' _ (hIp _ _ _ _ _ _ hi (by omega) hl) ((a1.trans acc).putDef (by omega)) ((World.putObj_heap_other (by omega)).trans hk) (Nat.le_refl _)⟩
set_option maxRecDepth 100000 in
set_option maxHeartbeats 2000000 in
theorem seqA {g id p q n lp:Nat} {rows:List (Int×List Int)} {fh:Nat→AHeap} {J:Nat→Gh→World→Prop}
  (hJI:∀i γ W,J i γ W→Inv γ (fh i) W∧γ.mu id=some g)
  (hJ:∀i γ W W',J i γ W→Below W.heap.size W W'→J i γ W')
  (hK:∀i,i≤rows.length→∀p∈rows,kidsOf (fh i) id p.1=some p.2)
  (hY:∀i γ W (hi:i<rows.length),J i γ W→YieldAt Fence.wide (n-1) Proofs.Tryz.prog lp #[.int .i64 rows[i].1] W λe W'=>e= .returned (.bool true)∧∃γ',J (i+1) γ' W'∧Acc γ W γ' W')
  {K:Int→Option (List Int)} {f:Nat} {x:Int} {ks:List Int} {l:List (Int×List Int)} (hp:preS K f x=some ((x,ks)::l)) (hr:rows=(x,ks)::l) {γ:Gh} {W:World}
  (h1:W.cell? ⟨p,0,none⟩=some (.pointer (some ⟨g,0,none⟩))) (h2:W.cell? ⟨q,0,none⟩=some (.int .i64 x)) (hj:J 1 γ W):
  CallsIn Fence.wide n Proofs.Tryz.prog 138 (#[.func (.yield lp) #[] #[]]++#[.pointer (some ⟨p,0,none⟩),.pointer (some ⟨q,0,none⟩)]) W λe W'=>(∃v,e= .returned v)∧∃γ',J rows.length γ' W'∧Acc γ W γ' W':=by
 have hv:=visitA (g:=g) (lp:=lp) (id:=id) (rows:=rows) (fh:=fh) hJI hJ hK (λi γ W hi hj=>by obtain⟨fn,tmps,assign,body,hy,hR⟩:=yield_any (k:=0) (hY i γ W hi hj);exact⟨fn,tmps,assign,body,hy,hR⟩) f x ks l [] 1 γ W hp (by rw[hr];simp) (by rw[hr];simp) (by rw[hr];simp) hj
 rw[show 1+l.length=rows.length by rw[hr,List.length_cons];omega] at hv;have HV:=hide hv;clear hJI hJ hK hY hv hp hj;refine callsIn_of_wp Proofs.Tryz.func138 rfl trivial ?_ rfl;simp only[Proofs.Tryz.ntmps138,List.size_toArray,List.length_cons,List.length_nil,Nat.reduceAdd,Nat.reduceSub,Array.replicate_succ,Array.replicate_zero,List.push_toArray,List.append_toArray,List.nil_append,List.cons_append]
 gi_wp2
 refine⟨trivial,nofun,(callsIn_wide.2 HV.out).mono ?_⟩;rintro e W4 ⟨rfl,γ',j4,a4⟩
 gi_wp2
 go_end0
 exact⟨⟨_,rfl⟩,γ',j4,a4⟩
set_option maxRecDepth 100000 in
set_option maxHeartbeats 4000000 in
theorem adopt105e {g:Nat} {x d:Int} {w:World} {R1 R2:World→Prop}
  (hcut:Calls Proofs.Tryz.prog 97 #[.pointer (some ⟨g,0,none⟩),.int .i64 x] ((w.alloc (.cells #[.pointer (some ⟨g,0,none⟩)] 25)).alloc (.cells #[.int .i64 d] 3)) λe W=>(∃v,e= .returned v)∧R1 W)
  (hd1:∀W,R1 W→R1 W.drew) (hd2:∀W,R2 W→R2 W.drew)
  (hc1:∀W,R1 W→W.cell? ⟨w.heap.size,0,none⟩=some (.pointer (some ⟨g,0,none⟩))∧W.cell? ⟨w.heap.size+1,0,none⟩=some (.int .i64 d))
  (hdoc:∀W,R1 W→Calls Proofs.Tryz.prog 31 #[.pointer (some ⟨g,0,none⟩),.int .i64 x] W λe W'=>e= .returned (.int .i64 d)∧R2 W')
  (hc2:∀W,R2 W→W.cell? ⟨w.heap.size,0,none⟩=some (.pointer (some ⟨g,0,none⟩))∧W.cell? ⟨w.heap.size+1,0,none⟩=some (.int .i64 d)):
  Calls Proofs.Tryz.prog 105 #[.pointer (some ⟨g,0,none⟩),.int .i64 x,.int .i64 d] w λe w'=>(∃v,e= .returned v∧v= .tuple #[])∧R2 w':=by
 have c3:=(cell_new' w (.pointer (some ⟨g,0,none⟩)) 25);refine(callsIn_wide (n:=5)).1 ?_;refine callsIn_of_wp_marks Proofs.Tryz.func105 rfl trivial ?_;simp only[Proofs.Tryz.ntmps105,List.size_toArray,List.length_cons,List.length_nil,Nat.reduceAdd,Nat.reduceSub,Array.replicate_succ,Array.replicate_zero,List.push_toArray,List.append_toArray,List.nil_append,List.cons_append]
 gi_wp2
 refine⟨trivial,(callsIn_wide.2 hcut).mono ?_⟩;rintro e W1 ⟨⟨v,rfl⟩,r1⟩;obtain⟨c1,c2⟩:=hc1 _ r1
 gi_wp2
 refine wpIn_wide.2 (wp_mono (Q:=λe a' w'=>match e with| .normal=>a'={tmps:=#[.pointer (some ⟨g,0,none⟩),.int .i64 x,.int .i64 d,.pointer (some ⟨w.heap.size,0,none⟩),undef,.pointer (some ⟨w.heap.size+1,0,none⟩),undef,undef,.pointer (some ⟨g,0,none⟩),.int .i64 x,v,.pointer (some ⟨g,0,none⟩),.int .i64 x,.int .i64 d,.int .i64 d,.bool true,undef,undef,undef,undef,undef,undef,undef,undef,undef,undef,undef],defers:=[]}∧R2 w'|_=>False) ?reg ?rest)
 case reg=>
  go_region_with (go_at_call 31;refine(hdoc _ (by first|exact r1|exact hd1 _ r1)).mono ?_;rintro e w' ⟨rfl,r2⟩;obtain⟨c3',c5'⟩:=hc2 _ r2)
  all_goals (refine⟨rfl,?_⟩;first|exact r2|exact hd2 _ r2)
 case rest=>
  rintro(_|_|_|_|_|_) a' w' hq
  all_goals first|exact hq.elim|skip
  obtain⟨rfl,r2⟩:=hq
  gi_wp2
  refine⟨.tuple #[],?_,⟨_,rfl,rfl⟩,r2⟩;simp[results,Proofs.Tryz.f105,go_sem]
set_option maxRecDepth 100000 in
set_option maxHeartbeats 8000000 in
theorem adopt105 {g id:Nat} {x d y0:Int} {w:World} {rows:List (Int×List Int)} {fh:Nat→AHeap} {R1:World→Prop} {R2:Gh→World→Prop} (hne:y0≠d)
  (hcut:Calls Proofs.Tryz.prog 97 #[.pointer (some ⟨g,0,none⟩),.int .i64 x] ((w.alloc (.cells #[.pointer (some ⟨g,0,none⟩)] 25)).alloc (.cells #[.int .i64 d] 3)) λe W=>(∃v,e= .returned v)∧R1 W)
  (hd1:∀W,R1 W→R1 W.drew) (hd2:∀γ W,R2 γ W→R2 γ W.drew)
  (hc1:∀W,R1 W→W.cell? ⟨w.heap.size,0,none⟩=some (.pointer (some ⟨g,0,none⟩))∧W.cell? ⟨w.heap.size+1,0,none⟩=some (.int .i64 d))
  (hdoc:∀W,R1 W→Calls Proofs.Tryz.prog 31 #[.pointer (some ⟨g,0,none⟩),.int .i64 x] W λe W'=>e= .returned (.int .i64 y0)∧∃γ2,R2 γ2 W')
  (h2:∀γ2 W,R2 γ2 W→Inv γ2 (fh 0) W∧γ2.mu id=some g∧γ2.imm w.heap.size 0=some (.pointer (some ⟨g,0,none⟩))∧γ2.imm (w.heap.size+1) 0=some (.int .i64 d)∧w.heap.size+1<W.heap.size)
  {K:Int→Option (List Int)} {f:Nat} {ks:List Int} {l:List (Int×List Int)} (hp:preS K f x=some ((x,ks)::l)) (hr:rows=(x,ks)::l)
  (hK:∀i,i≤rows.length→∀p∈rows,kidsOf (fh i) id p.1=some p.2)
  (hown:∀i γ' W (hi:i<rows.length),Inv γ' (fh i) W→(∃γ2 W2,R2 γ2 W2∧γ2.le γ')→Calls Proofs.Tryz.prog 135 #[.int .i64 rows[i].1,.pointer (some ⟨w.heap.size,0,none⟩),.pointer (some ⟨w.heap.size+1,0,none⟩)] W λe W'=>(∃v,e= .returned v)∧∃γ'',Inv γ'' (fh (i+1)) W'∧Acc γ' W γ'' W'):
  Calls Proofs.Tryz.prog 105 #[.pointer (some ⟨g,0,none⟩),.int .i64 x,.int .i64 d] w λe w'=>(∃v,e= .returned v∧v= .tuple #[])∧∃γ2 W2 γ' W6 D,R2 γ2 W2∧Inv γ' (fh rows.length) W6∧Acc γ2 W2 γ' W6∧W6.heap[D]?=some (.deferred (some []))∧W2.heap.size≤D∧w'=W6.putObj D (.deferred none):=by
 have HOWN:=hide hown;have HK:=hide hK;have H2:=hide h2;have HP:=hide hp;clear hown hK h2 hp;have hne':(y0==d)=false:=by simpa using hne
 have hne2:decide (y0=d)=false:=decide_eq_false hne;have c3:=(cell_new' w (.pointer (some ⟨g,0,none⟩)) 25);refine(callsIn_wide (n:=5)).1 ?_;refine callsIn_of_wp_marks Proofs.Tryz.func105 rfl trivial ?_;simp only[Proofs.Tryz.ntmps105,List.size_toArray,List.length_cons,List.length_nil,Nat.reduceAdd,Nat.reduceSub,Array.replicate_succ,Array.replicate_zero,List.push_toArray,List.append_toArray,List.nil_append,List.cons_append]
 gi_wp2
 refine⟨trivial,(callsIn_wide.2 hcut).mono ?_⟩;rintro e W1 ⟨⟨v,rfl⟩,r1⟩;obtain⟨c1,c2⟩:=hc1 _ r1
 gi_wp2
 refine wpIn_wide.2 (wp_mono (Q:=λe a' w'=>match e with| .normal=>a'={tmps:=#[.pointer (some ⟨g,0,none⟩),.int .i64 x,.int .i64 d,.pointer (some ⟨w.heap.size,0,none⟩),undef,.pointer (some ⟨w.heap.size+1,0,none⟩),undef,undef,.pointer (some ⟨g,0,none⟩),.int .i64 x,v,.pointer (some ⟨g,0,none⟩),.int .i64 x,.int .i64 y0,.int .i64 d,.bool false,undef,undef,undef,undef,undef,undef,undef,undef,undef,undef,undef],defers:=[]}∧∃γ2,R2 γ2 w'|_=>False) ?reg ?rest)
 case reg=>
  have hc2:∀γ2 W,R2 γ2 W→W.cell? ⟨w.heap.size,0,none⟩=some (.pointer (some ⟨g,0,none⟩))∧W.cell? ⟨w.heap.size+1,0,none⟩=some (.int .i64 d):=λγ2 W r2=>by obtain⟨p1,p2,p3,p4,p5⟩:=H2.out _ _ r2;exact⟨(p1.imm _ _ _ p3).1,(p1.imm _ _ _ p4).1⟩
  have HC2:=hide hc2;clear hc2
  go_region_with (go_at_call 31;refine(hdoc _ (by first|exact r1|exact hd1 _ r1)).mono ?_;rintro e w' ⟨rfl,γ2,r2⟩;obtain⟨c3',c5'⟩:=HC2.out _ _ r2)
  all_goals (refine⟨?_,γ2,?_⟩)
  all_goals first|exact r2|exact hd2 _ _ r2|(simp only[hne',hne2];rfl)|rfl
 case rest=>
  rintro(_|_|_|_|_|_) a' W2 hq
  all_goals first|exact hq.elim|skip
  obtain⟨rfl,γ2,r2⟩:=hq;obtain⟨p1,p2,p3,p4,p5⟩:=H2.out _ _ r2;have q3:=(p1.imm _ _ _ p3).1;have q4:=(p1.imm _ _ _ p4).1;obtain⟨n6,n6f⟩:=cell_new' W2 .nilFunc 133
  gi_wp2
  obtain⟨clo,hclo⟩:∃clo,clo=Value.func (Fn.func 135) #[] #[.pointer (some ⟨w.heap.size,0,none⟩),.pointer (some ⟨w.heap.size+1,0,none⟩)]:=⟨_,rfl⟩;obtain⟨W3,hW3⟩:∃W3,W2.alloc (.cells #[Value.func (Fn.func 135) #[] #[.pointer (some ⟨w.heap.size,0,none⟩),.pointer (some ⟨w.heap.size+1,0,none⟩)]] 133)=W3:=⟨_,rfl⟩;have b3:Below W2.heap.size W2 W3:=by rw[←hW3];exact(Below.refl _ W2).alloc (Nat.le_refl _) _
  have hh6:W3.heap[W2.heap.size]?=some (.cells #[Value.func (Fn.func 135) #[] #[.pointer (some ⟨w.heap.size,0,none⟩),.pointer (some ⟨w.heap.size+1,0,none⟩)]] 133 (0,0)):=by rw[←hW3];exact World.alloc_heap_new W2 _
  obtain⟨i3,a3⟩:=p1.of_below b3;have hpos:0<rows.length:=by rw[hr];simp
  have e0:rows[0].1=x:=by simp only[hr,List.getElem_cons_zero]
  have h0:=HOWN.out 0 γ2 W3 hpos i3 ⟨γ2,W2,r2,.refl _⟩;rw[e0] at h0;rw[hW3];refine⟨trivial,(callsIn_wide.2 h0).mono ?_⟩;rintro e W4 ⟨⟨v4,rfl⟩,γ4,i4,a4⟩;have n6:∀id,γ2.own W2.heap.size≠some (.obj id):=λid e=>by have:=p1.own _ _ e;omega
  have c6:∀{γ':Gh} {W:World},Acc γ2 W3 γ' W→W.cell? ⟨W2.heap.size,0,none⟩=some (Value.func (Fn.func 135) #[] #[.pointer (some ⟨w.heap.size,0,none⟩),.pointer (some ⟨w.heap.size+1,0,none⟩)]):=λha=>by have:=(ha.keep _ (Array.getElem?_eq_some_iff.1 hh6).1 n6).1;simp[World.cell?,this,hh6]
  have c34:∀{γ':Gh} {i:Nat} {W:World},Inv γ' (fh i) W→Acc γ2 W3 γ' W→W.cell? ⟨w.heap.size,0,none⟩=some (.pointer (some ⟨g,0,none⟩))∧W.cell? ⟨w.heap.size+1,0,none⟩=some (.int .i64 d):=λhi ha=>⟨(hi.imm _ _ _ (ha.le.imm _ _ _ p3)).1,(hi.imm _ _ _ (ha.le.imm _ _ _ p4)).1⟩
  obtain⟨q3',q4'⟩:=c34 i4 a4;have q6':=c6 a4;clear q3 q4 h0
  gi_wp2
  refine⟨trivial,(callsIn_wide.2 (below40 g x _)).mono ?_⟩;rintro e w' ⟨rfl,rfl⟩
  gi_wp2
  have hsz:((W4.alloc (.cells #[.pointer (some ⟨g,0,none⟩)] 25)).alloc (.cells #[.int .i64 x] 3)).heap.size=W4.heap.size+1+1:=by simp
  have bR:Below W4.heap.size W4 ((W4.alloc (.cells #[.pointer (some ⟨g,0,none⟩)] 25)).alloc (.cells #[.int .i64 x] 3)):=((Below.refl _ W4).alloc (Nat.le_refl _) _).alloc (by simp) _;have hs34:=a4.size;have hs23:=b3.size;obtain⟨iR,aR⟩:=i4.of_below bR;clear hcut hdoc hc1 hd1 hd2;refine wpIn_range_g (gf:=138) (lb:=#[.pointer (some ⟨W4.heap.size,0,none⟩),.pointer (some ⟨W4.heap.size+1,0,none⟩)]) (γ:=γ4) (rows.map (·.1)) (λi γ' W=>Inv γ' (fh i) W∧Acc γ2 W3 γ' W) fh rfl (Go.Proofs.enters_of Proofs.Tryz.func138 (by kernel_rfl) rfl)
   (λi γ' W h=>h.1) ?hIb ?hIp ?hseq rfl ⟨iR,a4.trans aR⟩
   (λy=>{tmps:=#[.pointer (some ⟨g,0,none⟩),.int .i64 x,.int .i64 d,.pointer (some ⟨w.heap.size,0,none⟩),undef,.pointer (some ⟨w.heap.size+1,0,none⟩),.pointer (some ⟨W2.heap.size,0,none⟩),.int .i64 y,.pointer (some ⟨g,0,none⟩),.int .i64 x,v,.pointer (some ⟨g,0,none⟩),.int .i64 x,.int .i64 y0,.int .i64 d,.bool false,.func (.func 135) #[] #[.pointer (some ⟨w.heap.size,0,none⟩),.pointer (some ⟨w.heap.size+1,0,none⟩)],.func (.func 135) #[] #[.pointer (some ⟨w.heap.size,0,none⟩),.pointer (some ⟨w.heap.size+1,0,none⟩)],.int .i64 x,v4,.pointer (some ⟨g,0,none⟩),.int .i64 x,.func (.func 138) #[] #[.pointer (some ⟨W4.heap.size,0,none⟩),.pointer (some ⟨W4.heap.size+1,0,none⟩)],.int .i64 y,undef,undef,undef],defers:=[]}) ?hassign ?hbody ?hdone
  case hIb=>rintro i γ' A B ⟨h1,h2⟩ hb;obtain⟨p,q⟩:=h1.of_below hb;exact⟨p,h2.trans q⟩
  case hIp=>rintro i γ' A r o o' ⟨h1,h2⟩ hr9 ho;exact⟨h1.putLoop ho (λ_ _ _ e=>nomatch e) (λ_ _ e=>nomatch e),h2.putDef (by rw[hsz] at hr9;omega)⟩
  case hseq=>
   intro lp J W hW hJI hJ hY hj;have k1:W.cell? ⟨W4.heap.size,0,none⟩=some (.pointer (some ⟨g,0,none⟩)):=by have:=cell_alloc' (.cells #[.int .i64 x] 3) (cell_new' W4 (.pointer (some ⟨g,0,none⟩)) 25).1;rw[cell?_of_heap (hW.block _ (lt_of_cell this))];exact this
   have k2:W.cell? ⟨W4.heap.size+1,0,none⟩=some (.int .i64 x):=by have:=(cell_new' (W4.alloc (.cells #[.pointer (some ⟨g,0,none⟩)] 25)) (.int .i64 x) 3).1;simp only[World.size_alloc] at this;rw[cell?_of_heap (hW.block _ (lt_of_cell this))];exact this
   have:=seqA (n:=4) (g:=g) (id:=id) (rows:=rows) (fh:=fh) (J:=J) (lp:=lp) (λi γ' W h=>⟨(hJI _ _ _ h).1,(hJI _ _ _ h).2.le.mu _ _ p2⟩) hJ HK.out (λi γ' W hi h=>by
    have:=hY i γ' W (by simpa using hi) h
    rwa [List.getElem_map] at this) HP.out hr k1 k2 hj
   rw[List.length_map];exact this
  case hassign=>
   clear c6 c34 n6;intro lp y W K hK;have hsem:=Oper.semAt_some lp
   gi_wp2
   exact hK
  case hbody=>
   rintro lp i γ' W hi ⟨hi1,ha1⟩;have hsem:=Oper.semAt_some lp;have cB:=c6 ha1;have hi':i<rows.length:=by simpa using hi
   have ho:=HOWN.out i γ' W hi' hi1 ⟨γ2,W2,r2,ha1.le⟩;rw[List.getElem_map];obtain⟨y,ey⟩:∃y,rows[i].1=y:=⟨_,rfl⟩;rw[ey] at ho⊢;have HO:=hide ho;clear ho c6 c34 n6 p1 i3 a3 b3 i4 a4 iR aR bR r2 hh6 hs34 hs23 hsz ey
   gi_wp2
   refine⟨trivial,(callsIn_wide.2 HO.out).mono ?_⟩;rintro e W7 ⟨⟨v7,rfl⟩,γ7,i7,a7⟩
   gi_wp2
   exact⟨γ7,⟨i7,ha1.trans a7⟩,a7⟩
  case hdone=>
   rintro D γ' W ⟨hi1,ha1⟩ haR hK hD;rw[List.length_map] at hi1;rw[hsz] at hD;have hDl:W2.heap.size≤D:=by omega
   have ha2:=a3.trans ha1;clear c6 c34 n6 p1 i3 a3 b3 i4 a4 iR aR bR hh6 hs34 hs23 hsz
   gi_wp2
   refine⟨nofun,.inl ⟨_,_,rfl,run_takeDeferred hK,?_⟩⟩;refine⟨.tuple #[],?_,⟨_,rfl,rfl⟩,γ2,W2,γ',W,D,r2,hi1,ha2,hK,hDl,rfl⟩;simp[results,Proofs.Tryz.f105,go_sem]
end Go.Am
end
section
namespace Go.Am
open Go Go.RowKit Go.Shelf
section
variable {γ:Gh} {h:AHeap} {w:World}
theorem eql_inv {r v:AVal} {d:Int} (h:peval (.int .eql) [r,.int .i64 d]=some v):∃a,r= .int .i64 a∧v= .bool (decide (a=d)):=by
 cases r with
 |int k a=>
  cases k
  all_goals first|(rw[pe_eql] at h;cases h;exact⟨a,rfl,rfl⟩)|(cases h;exact⟨a,rfl,by by_cases h:a=d<;>simp[h]⟩)|cases h
 |_=>cases h
set_option maxHeartbeats 2000000 in
theorem prim654 (n:Nat) (hs:SimCalls cx (IT.run (afun cx) n)) (args:List AVal) (r:AVal) (h':AHeap) (hrun:IT.step (afun cx) (IT.run (afun cx) n) (pAdopt 97 31 135 args) h=some (.ret,[r],h')):
  (∃fn c,cx.P.funcs[realOf 105]?=some fn∧(fn.name== "runtime.NumGoroutine")=false∧fn.body=some c)∧
  ∀(γ:Gh) (w:World) (cargs:Array Value),Inv γ h w→(∀g cs,cx.glob g=some cs→VRelM γ cs g 0)→VRelV γ args cargs.toList→
   Calls cx.P (realOf 105) cargs w λe w'=>match e with
    | .returned v=>∃γ',Inv γ' h' w'∧Acc γ w γ' w'∧VRel γ' r v∧(cx.ownRet 105=true→∃s c,OwnT γ' w.heap.size w' s c v r)
    |_=>False:=by
 refine⟨⟨_,_,Proofs.Tryz.func105,rfl,rfl⟩,λγ w cargs hi hg ha=>?_⟩;unfold pAdopt at hrun;split at hrun
 ·rename_i id x d;obtain⟨v0,us,hcg,⟨g,hm,rfl⟩,v1,us1,rfl,rfl,v2,us2,rfl,rfl,hnil⟩:=ha
  cases hnil
  have hcargs:cargs=#[.pointer (some ⟨g,0,none⟩),.int .i64 x,.int .i64 d]:=by apply Array.ext';simpa using hcg
  subst hcargs;obtain⟨hi1,ha1⟩:=alloc_claim hi #[.pointer (some ⟨g,0,none⟩)] 25 (0,0) 1 none (λo u ho hu=>by
   obtain rfl:o=0:=by omega
   cases hu;rfl) (.inl rfl)
  obtain⟨hi2,ha2⟩:=alloc_claim hi1 #[.int .i64 d] 3 (0,0) 1 none (λo u ho hu=>by
   obtain rfl:o=0:=by omega
   cases hu;rfl) (.inl rfl)
  have e1s:(w.alloc (.cells #[.pointer (some ⟨g,0,none⟩)] 25)).heap.size=w.heap.size+1:=World.size_alloc _ _;rw[e1s] at hi2 ha2;obtain⟨γ0,eγ0⟩:∃γ0,(γ.claim w.heap.size #[.pointer (some ⟨g,0,none⟩)] 1 none).claim (w.heap.size+1) #[.int .i64 d] 1 none=γ0:=⟨_,rfl⟩;have m3:γ0.imm w.heap.size 0=some (.pointer (some ⟨g,0,none⟩)):=by rw[←eγ0];simp[Gh.claim]
  have m5:γ0.imm (w.heap.size+1) 0=some (.int .i64 d):=by rw[←eγ0];simp[Gh.claim]
  rw[eγ0] at hi2 ha2;have ha0:=ha1.trans ha2;obtain⟨W0,eW0⟩:∃W0,(w.alloc (.cells #[.pointer (some ⟨g,0,none⟩)] 25)).alloc (.cells #[.int .i64 d] 3)=W0:=⟨_,rfl⟩;have hs0:W0.heap.size=w.heap.size+1+1:=by rw[←eW0];simp
  rw[eW0] at hi2 ha2 ha0;clear ha1 ha2 hi1 e1s eγ0;have hg1:∀{γ':Gh},γ.le γ'→∀g cs,cx.glob g=some cs→VRelM γ' cs g 0:=λhle g cs hgc=>VRelM.mono hle cs g 0 (hg g cs hgc);simp only[IT.step] at hrun;split at hrun
  ·rename_i r1 h1 e1;split at hrun
   ·rename_i y h2 e2
    cases eN:peval (.int .eql) [y,.int .i64 d] with
    |none=>simp[eN] at hrun
    |some vN=>
    obtain⟨y0,rfl,rfl⟩:=eql_inv eN;simp only[eN] at hrun;have hcut:Calls Proofs.Tryz.prog 97 #[.pointer (some ⟨g,0,none⟩),.int .i64 x] W0 λe W=>(∃v,e= .returned v)∧∃γ3,Inv γ3 h1 W∧Acc γ0 W0 γ3 W:=by
     refine((hs.2 97 _ _ _ _ e1).2 γ0 W0 #[.pointer (some ⟨g,0,none⟩),.int .i64 x] hi2 (hg1 ha0.le) ⟨_,_,rfl,⟨g,ha0.le.mu _ _ hm,rfl⟩,_,_,rfl,rfl,rfl⟩).mono λe w' he=>?_
     cases e with
     |returned v=>obtain⟨γ3,hi3,ha3,hv,_⟩:=he;exact⟨⟨v,rfl⟩,γ3,hi3,ha3⟩
     |_=>exact he.elim
    have hdoc:∀W,(∃γ3,Inv γ3 h1 W∧Acc γ0 W0 γ3 W)→Calls Proofs.Tryz.prog 31 #[.pointer (some ⟨g,0,none⟩),.int .i64 x] W λe W'=>e= .returned (.int .i64 y0)∧∃γ4,Inv γ4 h2 W'∧Acc γ0 W0 γ4 W':=by
     rintro W ⟨γ3,hi3,ha3⟩;refine((hs.2 31 _ _ _ _ e2).2 γ3 W #[.pointer (some ⟨g,0,none⟩),.int .i64 x] hi3 (hg1 (ha0.le.trans ha3.le)) ⟨_,_,rfl,⟨g,(ha0.le.trans ha3.le).mu _ _ hm,rfl⟩,_,_,rfl,rfl,rfl⟩).mono λe w' he=>?_
     cases e with
     |returned v=>
      obtain⟨γ4,hi4,ha4,hv,_⟩:=he
      cases hv
      exact⟨rfl,γ4,hi4,ha3.trans ha4⟩
     |_=>exact he.elim
    have hc:∀hh W,(∃γ3,Inv γ3 hh W∧Acc γ0 W0 γ3 W)→W.cell? ⟨w.heap.size,0,none⟩=some (.pointer (some ⟨g,0,none⟩))∧W.cell? ⟨w.heap.size+1,0,none⟩=some (.int .i64 d):=by rintro hh W ⟨γ3,hi3,ha3⟩;exact⟨(hi3.imm _ _ _ (ha3.le.imm _ _ _ m3)).1,(hi3.imm _ _ _ (ha3.le.imm _ _ _ m5)).1⟩
    have hdr:∀hh W,(∃γ3,Inv γ3 hh W∧Acc γ0 W0 γ3 W)→∃γ3,Inv γ3 hh W.drew∧Acc γ0 W0 γ3 W.drew:=by rintro hh W ⟨γ3,hi3,ha3⟩;exact⟨γ3,hi3.same rfl,ha3.trans (Acc.drew γ3 W)⟩
    by_cases hy:y0=d
    ·subst hy;simp only[decide_true] at hrun
     cases hrun
     refine(adopt105e (g:=g) (x:=x) (d:=y0) (w:=w) (R1:=λW=>∃γ3,Inv γ3 h1 W∧Acc γ0 W0 γ3 W) (R2:=λW=>∃γ4,Inv γ4 h' W∧Acc γ0 W0 γ4 W) (by rw[eW0];exact hcut) (hdr _) (hdr _) (hc _) hdoc (hc _)).mono ?_;rintro e w' ⟨⟨v,rfl,rfl⟩,γ4,hi4,ha4⟩;exact⟨γ4,hi4,ha0.trans ha4,⟨_,rfl,rfl⟩,λe=>by cases e⟩
    ·simp only[hy,decide_false] at hrun;simp only[meval] at hrun
     cases e3:gPreS h2 [.ptr (some (id,0)),.int .i64 x] with
     |none=>simp[e3] at hrun
     |some R3=>
     obtain⟨h3,r3⟩:=R3;simp only[e3] at hrun;obtain⟨rfl,f,rows,hrows,rfl⟩:=gPreS_mem e3;obtain⟨_,ks,l,_,hk0,_,erows⟩:=preS_cons hrows;obtain⟨rfl,fh,f0,f1,f2⟩:=own_con hrun;have hpre:∀i,i≤rows.length→∃f,preS (kidsOf (fh i) id) f x=some rows:=λi hi=>by
      cases i with
      |zero=>rw[f0];exact⟨f,hrows⟩
      |succ i=>
       obtain⟨_,f',l',q1,q2⟩:=gPreS_mem (f2 i (by omega)).2;injection q2 with _ q2
       exact⟨f',by rw[q1,encS_inj q2]⟩
     refine(adopt105 (g:=g) (id:=id) (x:=x) (d:=d) (y0:=y0) (w:=w) (rows:=rows) (fh:=fh) (R1:=λW=>∃γ3,Inv γ3 h1 W∧Acc γ0 W0 γ3 W) (R2:=λγ4 W=>Inv γ4 h3 W∧Acc γ0 W0 γ4 W) hy (by rw[eW0];exact hcut) (hdr _) (λγ4 W h=>⟨h.1.same rfl,h.2.trans (Acc.drew γ4 W)⟩) (hc _) hdoc ?_ (K:=kidsOf h3 id) (f:=f) (ks:=ks) (l:=l) (by rw[←erows];exact hrows) erows ?_ ?_).mono ?_
     ·rintro γ4 W ⟨hi4,ha4⟩;refine⟨by rw[f0];exact hi4,(ha0.le.trans ha4.le).mu _ _ hm,ha4.le.imm _ _ _ m3,ha4.le.imm _ _ _ m5,?_⟩;have:=ha4.size;omega
     ·intro i hi p hp;obtain⟨f',q⟩:=hpre i hi;exact preS_all q p hp
     ·rintro i γ' W hi hiv ⟨γ4,W2,⟨hi4,ha4⟩,hle⟩;obtain⟨rr,er⟩:=(f2 i hi).1;have hle9:=(ha0.le.trans ha4.le).trans hle;refine((hs.2 135 _ _ _ _ er).2 γ' W #[.int .i64 rows[i].1,.pointer (some ⟨w.heap.size,0,none⟩),.pointer (some ⟨w.heap.size+1,0,none⟩)] hiv (hg1 hle9) ⟨_,_,rfl,rfl,_,_,rfl,⟨_,_,rfl,⟨_,(ha4.le.trans hle).imm _ _ _ m3,⟨g,hle9.mu _ _ hm,rfl⟩⟩,trivial⟩,_,_,rfl,⟨_,_,rfl,⟨_,(ha4.le.trans hle).imm _ _ _ m5,rfl⟩,trivial⟩,rfl⟩).mono λe w' he=>?_
      cases e with
      |returned v=>obtain⟨γ5,hi5,ha5,hv,_⟩:=he;exact⟨⟨v,rfl⟩,γ5,hi5,ha5⟩
      |_=>exact he.elim
     ·rintro e w' ⟨⟨v,rfl,rfl⟩,γ4,W2,γ5,W6,D,⟨hi4,ha4⟩,hi5,ha5,hK,hD,rfl⟩;rw[f1] at hi5;refine⟨γ5,hi5.putDef hK,((ha0.trans ha4).trans ha5).putDef ?_,⟨_,rfl,rfl⟩,λe=>by cases e⟩;have:=ha0.size;have:=ha4.size;omega
   ·cases hrun
  ·cases hrun
 ·cases hrun
end
end Go.Am
end
