/- Lemmas -/
import Derived.Test.YtjboelmdplaenaaGreatDoorQ16
import Derived.RangeFuncBox
import Derived.OwnWalkIn
import Derived.TacticsInMore
import Derived.LoopNIn
import Derived.Sort.LoopGhostIn
set_option linter.unusedVariables false
set_option linter.unusedSimpArgs false
section
namespace Go.Am
open Go Go.RowKit Go.Shelf
theorem has84 (ga:Nat) (p:Option Addr) (n cap:Nat) (x:Int) (w:World) (hc:w.cell? ⟨ga,0,none⟩=some (.slice p n cap)):
  Calls Proofs.Tryz.prog 32 #[.pointer (some ⟨ga,0,none⟩),.int .i64 x] w λe w'=>e= .returned (.bool (decide (1≤x∧x≤n)))∧w=w':=by
 go_enter Proofs.Tryz.func32,Proofs.Tryz.ntmps32
 go_wp2
 all_goals refine bodyPost_ret (results_tmp rfl _ _ _) rfl ?_
 all_goals simp_all
 all_goals omega
theorem at43 (ga gn off n cap:Nat) (x:Int) (w:World) (hc:w.cell? ⟨ga,0,none⟩=some (.slice (some ⟨gn,off,none⟩) n cap)) (h1:1≤x) (h2:x≤n) (hcap:n≤cap) (hm:cap≤maxLen):
  Calls Proofs.Tryz.prog 24 #[.pointer (some ⟨ga,0,none⟩),.int .i64 x] w λe w'=>e= .returned (.pointer (some ⟨gn,off+(x.toNat-1)*13,none⟩))∧w=w':=by
 have hb:maxLen≤9223372036854775807:=by decide
 have hw:wrap64 (x-1)=x-1:=Go.IntWalk.wrap64_in _ ⟨by omega,by omega⟩
 go_enter Proofs.Tryz.func24,Proofs.Tryz.ntmps24
 go_wp2
 all_goals refine bodyPost_ret (results_tmp rfl _ _ _) rfl ?_
 all_goals exact⟨rfl,rfl⟩
theorem up209 (ga:Nat) (x:Int) (w:World):
  Calls Proofs.Tryz.prog 130 #[.pointer (some ⟨ga,0,none⟩),.int .i64 x,.bool true] w λe w'=>e= .returned (.func (.func 149) #[] #[.pointer (some ⟨w.heap.size+1,0,none⟩),.pointer (some ⟨w.heap.size,0,none⟩),.pointer (some ⟨w.heap.size+1+1,0,none⟩)])∧
   w'=((w.alloc (.cells #[.pointer (some ⟨ga,0,none⟩)] 25)).alloc (.cells #[.int .i64 x] 3)).alloc (.cells #[.bool true] 4):=by
 have hmf:∀(fn:Fn) (first cap:Array Value) (w:World),(Instr.makeFunc fn first cap).run Proofs.Tryz.prog w= .ok (.func fn first cap) w:=λ_ _ _ _=>rfl
 go_enter Proofs.Tryz.func130,Proofs.Tryz.ntmps130
 go_wp2
 go_ret
 exact⟨rfl,rfl⟩
theorem climb_zero {cs:List AVal} {off n:Nat} {up:Int} {k:Nat} {b:Bool} (h:climb cs off n up k 0=some b):b=false:=by cases k<;>simp[climb] at h<;>exact h
theorem climb_step {cs:List AVal} {off n:Nat} {up x:Int} {k:Nat} {b:Bool} (h:climb cs off n up k x=some b) (hx:x≠0):∃k',k=k'+1∧
  ((x=up∧b=true)∨(x≠up∧1≤x∧x≤n∧∃p q,nodeCell cs off x 1=some p∧nodeCell cs off x 12=some q∧climb cs off n up k' (if p=0 then q else p)=some b)):=by
 cases k with
 |zero=>
  rw[climb] at h;· cases h
  ·exact λe=>hx e
 |succ k=>
  refine⟨k,rfl,?_⟩;rw[climb] at h
  ·split at h
   ·rename_i e
    cases h
    exact .inl ⟨e,rfl⟩
   ·rename_i e;split at h
    ·rename_i hr;split at h
     ·rename_i p q e1 e2;exact .inr ⟨e,hr.1,hr.2,p,q,e1,e2,h⟩
     ·cases h
    ·cases h
  ·exact λe=>hx e
structure Seen (Ba Bo ga gn off n cap:Nat) (cs:List AVal) (W:World):Prop where
 a:W.cell? ⟨Ba,0,none⟩=some (.pointer (some ⟨ga,0,none⟩))
 o:W.cell? ⟨Bo,0,none⟩=some (.bool true)
 c:W.cell? ⟨ga,0,none⟩=some (.slice (some ⟨gn,off,none⟩) n cap)
 x:∀(h:Int) (k:Nat) (v:Int),1≤h→h≤n→(k=1∨k=12)→nodeCell cs off h k=some v→W.cell? ⟨gn,off+(h.toNat-1)*13+k,none⟩=some (.int .i64 v)
theorem Seen.keep {Ba Bo ga gn off n cap:Nat} {cs:List AVal} {A B:World} (h:Seen Ba Bo ga gn off n cap cs A) (hk:∀b,b=Ba∨b=Bo∨b=ga∨b=gn→B.heap[b]?=A.heap[b]?):Seen Ba Bo ga gn off n cap cs B:=
 ⟨by rw[cell?_of_heap (hk _ (by simp))];exact h.a,by rw[cell?_of_heap (hk _ (by simp))];exact h.o,by rw[cell?_of_heap (hk _ (by simp))];exact h.c,
  λx k v h1 h2 h3 h4=>by rw[cell?_of_heap (hk _ (by simp))];exact h.x x k v h1 h2 h3 h4⟩
theorem set_all {Ba Bo ga gn off n cap Bh:Nat} {cs:List AVal} {A:World} {u:Value} {J:World→Prop} (hJ:∀A B row,J A→A.grownBy B row→(∀r,row=some r→r=Bh)→J B)
  (hd:∀b,b=Ba∨b=Bo∨b=ga∨b=gn→b≠Bh) (hs:Seen Ba Bo ga gn off n cap cs A) (hc:A.cell? ⟨Bh,0,none⟩=some u) (hf:A.frozen? ⟨Bh,0,none⟩=false) (hj:J A) (v:Value):
  Seen Ba Bo ga gn off n cap cs (A.setCell ⟨Bh,0,none⟩ v)∧(A.setCell ⟨Bh,0,none⟩ v).cell? ⟨Bh,0,none⟩=some v∧(A.setCell ⟨Bh,0,none⟩ v).frozen? ⟨Bh,0,none⟩=false∧J (A.setCell ⟨Bh,0,none⟩ v):=
 ⟨hs.keep λb hb=>Below.heap_setCell _ _ _ b (hd b hb),World.cell?_setCell_same _ _ _ hc,by rw[World.frozen?_setCell];exact hf,hJ _ _ _ hj (grownBy_setCell' A Bh v) λr e=>by cases e;rfl⟩
set_option maxRecDepth 100000 in
set_option maxHeartbeats 1600000 in
theorem up231 (m l Bh Ba Bo n₁ ga gn off n cap:Nat) (cs:List AVal) (up:Int) (J Jx:World→Prop)
  (hJ:∀A B row,J A→A.grownBy B row→(∀r,row=some r→r=Bh)→J B)
  (hY:∀x W,J W→YieldAt Fence.wide (m-1) Proofs.Tryz.prog l #[.int .i64 x] W λe W'=>(e= .returned (.bool true)∧J W'∧Below n₁ W W'∧x≠up)∨(e= .returned (.bool false)∧Jx W'∧x=up))
  (hd:∀b,b=Ba∨b=Bo∨b=ga∨b=gn→b<n₁∧b≠Bh) (hBh:Bh<n₁) (hcap:n≤cap) (hm:cap≤maxLen)
  (W:World) (x0:Int) (hs:Seen Ba Bo ga gn off n cap cs W) (hh:W.cell? ⟨Bh,0,none⟩=some (.int .i64 x0)) (hf:W.frozen? ⟨Bh,0,none⟩=false)
  (fuel:Nat) (b:Bool) (hcl:climb cs off n up fuel x0=some b) (h0:J W):
  CallsIn Fence.wide m Proofs.Tryz.prog 149 #[.func (.yield l) #[] #[],.pointer (some ⟨Bh,0,none⟩),.pointer (some ⟨Ba,0,none⟩),.pointer (some ⟨Bo,0,none⟩)] W λe W'=>(∃v,e= .returned v)∧((b=false∧J W')∨(b=true∧Jx W')):=by
 refine callsIn_of_wp Proofs.Tryz.func149 rfl trivial ?_ rfl;simp only[Proofs.Tryz.ntmps149,List.size_toArray,List.length_cons,List.length_nil,Nat.reduceAdd,Nat.reduceSub,Array.replicate_succ,Array.replicate_zero,List.push_toArray,List.append_toArray,List.nil_append,List.cons_append]
 gi_wp2
 gi_loopg [] fuel (λk wr=>∃x,climb cs off n up k x=some b∧Seen Ba Bo ga gn off n cap cs wr∧wr.cell? ⟨Bh,0,none⟩=some (.int .i64 x)∧wr.frozen? ⟨Bh,0,none⟩=false∧J wr)
 case atStart=>exact⟨x0,hcl,hs,hh,hf,h0⟩
 case round=>
  obtain⟨x,hcl,hs,hh,hf,hj⟩:=hrel;by_cases hx:x=0
  ·subst hx;have:=climb_zero hcl;subst this
   gi_wp2
   refine⟨nofun,?_⟩
   gi_wp2
   go_end0
   exact⟨⟨_,rfl⟩,hj⟩
  ·obtain⟨k',rfl,hcase⟩:=climb_step hcl hx;have hne:(x != 0)=true:=by simp[hx]
   obtain⟨fn,tmps,assign,body,hy,hR⟩:=hY x wr hj
   gi_wp2
   refine⟨nofun,?_⟩;refine hR.mono ?_;rintro e W3 (⟨rfl,hJ3,hk3,hxu⟩|⟨rfl,hJx3,hxu⟩)
   ·rcases hcase with⟨rfl,_⟩|⟨_,h1,h2,p,q,e1,e2,hcl'⟩
    ·exact absurd rfl hxu
    have hs3:=hs.keep λb hb=>hk3.block b (hd b hb).1;have hh3:W3.cell? ⟨Bh,0,none⟩=some (.int .i64 x):=by rw[cell?_of_heap (hk3.block Bh hBh)];exact hh
    have hf3:W3.frozen? ⟨Bh,0,none⟩=false:=by rw[←hf];simp only[World.frozen?,hk3.block Bh hBh]
    have hp:=hs3.x x 1 p h1 h2 (.inl rfl) e1;have hq:=hs3.x x 12 q h1 h2 (.inr rfl) e2;have ca3:=hs3.a;have co3:=hs3.o;have nBo:¬Bo=Bh:=(hd Bo (by simp)).2;have ngn:¬gn=Bh:=(hd gn (by simp)).2
    gi_wp2
    refine⟨trivial,nofun,(callsIn_wide.2 (at43 ga gn off n cap x _ hs3.c h1 h2 hcap hm)).mono ?_⟩;rintro e w' ⟨rfl,rfl⟩;obtain⟨s4,c4,z4,j4⟩:=set_all hJ (λb hb=>(hd b hb).2) hs3 hh3 hf3 hJ3 (.int .i64 p);by_cases hp0:p=0
    ·subst hp0;obtain⟨s5,c5,z5,j5⟩:=set_all hJ (λb hb=>(hd b hb).2) s4 c4 z4 j4 (.int .i64 q)
     gi_wp2
     gi_roundg k'
     case measure=>omega
     case rel=>exact⟨q,hcl',s5,c5,z5,j5⟩
    ·have hpf:(p==0)=false:=by simp[hp0]
     gi_wp2
     gi_roundg k'
     case measure=>omega
     case rel=>exact⟨p,by rw[if_neg hp0] at hcl';exact hcl',s4,c4,z4,j4⟩
   ·rcases hcase with⟨_,rfl⟩|⟨hxu',_⟩
    ·gi_wp2
     go_end0
     exact⟨⟨_,rfl⟩,hJx3⟩
    ·exact absurd hxu hxu'
def upPost (n₁:Nat) (up:Int) (I Ix:World→Prop) (x:Int) (W:World):Exit→Act→World→Prop
 | .normal,_,W'=>KeepsOthers W W'∧Below n₁ W W'∧I W'∧x≠up
 | .ret,_,W'=>KeepsOthers W W'∧Ix W'∧x=up
 | .exit _,_,_=>False
 | .goto _,_,_=>False
 | .panic _,_,_=>False
 | .outgrown,_,_=>False
theorem wpIn_range_b {P:Program} {n gf:Nat} {lb:Array Value} {g:Operand} {ps:Array Tmp} {assign body:Code} {Q:Exit→Act→World→Prop} {a:Act} {w:World} (Bh:Nat) (b:Bool) (up:Int)
  (hg:a.eval g= .func (.func gf) #[] lb) (eg:∀args w,(callFunc gf args).run P w= .ok (.enter gf args) w) (hBh:Bh<w.heap.size)
  (hseq:∀(l:Nat) (J Jx:World→Prop) (W:World),Below w.heap.size w W→(∀A B row,J A→A.grownBy B row→(∀r,row=some r→r=Bh)→J B)→
   (∀x W1,J W1→YieldAt Fence.wide (n-1 -1) P l #[.int .i64 x] W1 λe W'=>(e= .returned (.bool true)∧J W'∧Below w.heap.size W1 W'∧x≠up)∨(e= .returned (.bool false)∧Jx W'∧x=up))→J W→
   CallsIn Fence.wide (n-1) P gf (#[.func (.yield l) #[] #[]]++lb) W λe W'=>(∃v,e= .returned v)∧((b=false∧J W')∨(b=true∧Jx W')))
  (hps:ps.size=1) (I Ix:World→Prop) (hI:∀A B row,I A→A.grownBy B row→(∀r,row=some r→r=Bh∨w.heap.size≤r)→I B)
  (hIx:∀A B row,Ix A→A.grownBy B row→(∀r,row=some r→r=Bh∨w.heap.size≤r)→Ix B) (h0:I w) (a₁:Int→Act)
  (hassign:∀(l:Nat) (x:Int) (W:World) (K:Act→World→Prop),K (a₁ x) W→
   assign.wpIn (Fence.wide.inRound l) (n-1 -1) P (Exit.then K (λ_ _ _=>False)) {tmps:=(ps.zip #[.int .i64 x]).foldl (λt (p,v)=>t.setIfInBounds p v) a.tmps,defers:=[]} W)
  (hbody:∀(l:Nat) (x:Int) (W:World),I W→body.wpIn (Fence.wide.inRound l) (n-1 -1) P (upPost w.heap.size up I Ix x W) (a₁ x) W)
  (hdone:∀(D:Nat) (W:World),b=false→I W→W.heap[D]?=some (.deferred (some []))→w.heap.size≤D→Q .normal {a with defers:={target:= .collected D,args:=#[]}::a.defers} W)
  (hstop:∀(D:Nat) (W:World),b=true→Ix W→W.heap[D]?=some (.deferred (some []))→w.heap.size≤D→Code.ret.wpIn Fence.wide n P Q {a with defers:={target:= .collected D,args:=#[]}::a.defers} W):
  (Code.rangeFunc g ps assign body).wpIn Fence.wide n P Q a w:=by
 refine wpIn_rangeFunc ?_;intro fn hfn;have hro:Fence.wide.round=none:=rfl;rw[hro];obtain⟨rec,hrec⟩:∃rec:LoopState→Option Code→Loop,rec=λst pe=>{state:=st,pending:=pe,fn,tmps:=a.tmps,params:=ps,assign,body,defers:=w.heap.size}:=⟨_,rfl⟩;obtain⟨W1,hW1⟩:∃W1,(w.alloc (.deferred (some []))).alloc (.loop (rec .ready none))=W1:=⟨_,rfl⟩;have hL1:W1.heap[w.heap.size+1]?=some (.loop (rec .ready none)):=by rw[←hW1];have:=World.alloc_heap_new (w.alloc (.deferred (some []))) (.loop (rec .ready none));rwa [World.size_alloc] at this
 have hK1:W1.heap[w.heap.size]?=some (.deferred (some [])):=by rw[←hW1];exact(Below.heap_alloc _ _ _ (by simp)).trans (World.alloc_heap_new w _)
 have hI1:I W1:=by rw[←hW1];exact hI _ _ none (hI _ _ none h0 (World.grownBy_alloc _ _ none) nofun) (World.grownBy_alloc _ _ none) nofun
 have hb1:Below w.heap.size w W1:=by rw[←hW1];exact(((Below.refl _ w).alloc (Nat.le_refl _) _).alloc (by simp) _)
 refine⟨w.heap.size+1,[{target:= .collected w.heap.size,args:=#[]}],W1,{target:= .fn (.func gf) lb,args:=#[.func (.yield (w.heap.size+1)) #[] #[]]},W1,gf,
  #[.func (.yield (w.heap.size+1)) #[] #[]]++lb,W1,?_,?_,?_,?_,nofun,?_⟩
 ·rw[←hW1,hrec];exact run_enterLoop_outer _ _ _ _ _
 ·simp only[resolve,hg];simp[go_sem]
 ·intro f' hf';trivial
 ·simp[invoke,go_sem,eg]
 ·refine(hseq (w.heap.size+1)
   (λW=>I W∧W.heap[w.heap.size+1]?=some (.loop (rec .ready none))∧W.heap[w.heap.size]?=some (.deferred (some [])))
   (λW=>Ix W∧W.heap[w.heap.size+1]?=some (.loop (rec .done (some .ret)))∧W.heap[w.heap.size]?=some (.deferred (some [])))
   W1 hb1
   (λA B row hs hg' hr=>⟨hI A B row hs.1 hg' (λr e=> .inl (hr r e)),(hg'.block _ (Array.getElem?_eq_some_iff.1 hs.2.1).1 (λe=>by have:=hr _ e.symm;omega)).trans hs.2.1,
    (hg'.block _ (Array.getElem?_eq_some_iff.1 hs.2.2).1 (λe=>by have:=hr _ e.symm;omega)).trans hs.2.2⟩)
   ?_ ⟨hI1,hL1,hK1⟩).mono ?_
  ·rintro x W ⟨hi,hl,hk⟩;have hlt:w.heap.size+1<W.heap.size:=(Array.getElem?_eq_some_iff.1 hl).1;have hy:=run_yield (P:=P) (args:=#[.int .i64 x]) hl (by rw[hrec];exact hps.symm);rw[hrec] at hy;refine⟨fn,_,assign,body,hy,roundIn_of_wpIn hfn (hassign _ x W _ ⟨_,run_beginRound hl (by rw[hrec]),?_⟩)⟩;have hl2:(W.putObj (w.heap.size+1) (.loop {rec .ready none with state:= .busy})).heap[w.heap.size+1]?=some (.loop {rec .ready none with state:= .busy}):=World.putObj_heap_same hlt;have hk2:(W.putObj (w.heap.size+1) (.loop {rec .ready none with state:= .busy})).heap[w.heap.size]?=some (.deferred (some [])):=(World.putObj_heap_other (by omega)).trans hk;have hw2:Below w.heap.size W (W.putObj (w.heap.size+1) (.loop {rec .ready none with state:= .busy})):=belowK_b (Nat.le_refl _) W _ _ _ (by omega) hl rfl rfl;refine wpIn_mono (hbody _ x _ (hI _ _ _ hi (grownBy_putObj' W _ _) (λr e=> .inr (by cases e;omega)))) ?_;have fin:∀(jump:Option Code) (W3:World),KeepsOthers (W.putObj (w.heap.size+1) (.loop {rec .ready none with state:= .busy})) W3→
     (Instr.endRound (w.heap.size+1) jump).run P W3= .ok (.bool jump.isNone) (W3.putObj (w.heap.size+1) (.loop (rec (if jump.isNone then .ready else .done) jump)))∧
     W3.heap[w.heap.size+1]?=some (.loop {rec .ready none with state:= .busy})∧
     (W3.putObj (w.heap.size+1) (.loop (rec (if jump.isNone then .ready else .done) jump))).heap[w.heap.size+1]?=some (.loop (rec (if jump.isNone then .ready else .done) jump))∧
     (W3.putObj (w.heap.size+1) (.loop (rec (if jump.isNone then .ready else .done) jump))).heap[w.heap.size]?=some (.deferred (some [])):=λjump W3 hk3=>by
    have hl3:=hk3.same _ _ hl2 rfl;have:=run_endRound (P:=P) jump hl3;rw[hrec] at this⊢;exact⟨this,by rw[hrec] at hl3;exact hl3,World.putObj_heap_same (Array.getElem?_eq_some_iff.1 hl3).1,(World.putObj_heap_other (by omega)).trans (hk3.same _ _ hk2 rfl)⟩
   rintro e a3 W3 hp
   cases e with
   |normal=>obtain⟨hk3,hkp3,hi3,hne⟩:=hp;obtain⟨hr,hl3,hl4,hk4⟩:=fin none W3 hk3;exact⟨_,_,hr,.inl ⟨rfl,⟨hI _ _ _ hi3 (grownBy_putObj' W3 _ _) (λr e=> .inr (by cases e;omega)),hl4,hk4⟩,(hw2.trans hkp3).trans (belowK_b (Nat.le_refl _) W3 _ _ _ (by omega) hl3 rfl rfl),hne⟩⟩
   |ret=>obtain⟨hk3,hi3,he⟩:=hp;obtain⟨hr,hl3,hl4,hk4⟩:=fin (some .ret) W3 hk3;exact⟨_,_,hr,.inr ⟨rfl,⟨hIx _ _ _ hi3 (grownBy_putObj' W3 _ _) (λr e=> .inr (by cases e;omega)),hl4,hk4⟩,he⟩⟩
   |exit id=>exact hp.elim
   |goto t=>exact hp.elim
   |panic ch=>exact hp.elim
   |outgrown=>exact hp.elim
  ·rintro e W2 ⟨⟨v,rfl⟩,(⟨hb,hi,hl,hk⟩|⟨hb,hi,hl,hk⟩)⟩
   ·exact⟨none,_,by have:=run_endLoop (P:=P) hl (by rw[hrec];simp);rw[hrec] at this;exact this,hdone _ _ hb (hI _ _ _ hi (grownBy_putObj' W2 _ _) (λr e=> .inr (by cases e;omega))) ((World.putObj_heap_other (by omega)).trans hk) (Nat.le_refl _)⟩
   ·exact⟨some .ret,_,by have:=run_endLoop (P:=P) hl (by rw[hrec];simp);rw[hrec] at this;exact this,hstop _ _ hb (hIx _ _ _ hi (grownBy_putObj' W2 _ _) (λr e=> .inr (by cases e;omega))) ((World.putObj_heap_other (by omega)).trans hk) (Nat.le_refl _)⟩
theorem cell_alloc' {W:World} {k j:Nat} {v:Value} (o:Obj) (h:W.cell? ⟨k,j,none⟩=some v):(W.alloc o).cell? ⟨k,j,none⟩=some v:=by rw[World.cell?_alloc_past _ _ _ (lt_of_cell h)];exact h
theorem frozen_alloc' {W:World} {k j:Nat} {v:Value} (o:Obj) (h:W.cell? ⟨k,j,none⟩=some v):(W.alloc o).frozen? ⟨k,j,none⟩=W.frozen? ⟨k,j,none⟩:=
 World.frozen?_alloc_past _ _ _ (lt_of_cell h)
theorem cell_new' (W:World) (v:Value) (t:TypeId):(W.alloc (.cells #[v] t)).cell? ⟨W.heap.size,0,none⟩=some v∧(W.alloc (.cells #[v] t)).frozen? ⟨W.heap.size,0,none⟩=false:=by
 have h:(W.alloc (.cells #[v] t)).heap[W.heap.size]?=some (.cells #[v] t (0,0)):=World.alloc_heap_new W _;constructor
 ·simp only[World.cell?,h];rfl
 ·simp only[World.frozen?,h];rfl
theorem box_keep {A B:World} {row:Option Nat} {k:Nat} {v:Value} (h:A.cell? ⟨k,0,none⟩=some v) (hg:A.grownBy B row) (hr:∀r,row=some r→k≠r):
  B.cell? ⟨k,0,none⟩=some v∧B.frozen? ⟨k,0,none⟩=A.frozen? ⟨k,0,none⟩:=by
 have hb:B.heap[k]?=A.heap[k]?:=hg.block k (lt_of_cell h) (λe=>hr k e.symm rfl);exact⟨by rw[cell?_of_heap hb];exact h,by simp only[World.frozen?,hb]⟩
set_option maxRecDepth 100000 in
set_option maxHeartbeats 2000000 in
theorem con168 (ga gn off n cap:Nat) (cs:List AVal) (up x:Int) (w:World) (hga:ga<w.heap.size) (hgn:gn<w.heap.size) (hcap:n≤cap) (hm:cap≤maxLen)
  (hc:w.cell? ⟨ga,0,none⟩=some (.slice (some ⟨gn,off,none⟩) n cap))
  (hx:∀(h:Int) (k:Nat) (v:Int),1≤h→h≤n→(k=1∨k=12)→nodeCell cs off h k=some v→w.cell? ⟨gn,off+(h.toNat-1)*13+k,none⟩=some (.int .i64 v))
  (b:Bool) (hcl:climb cs off n up (n+1) x=some b) (hu1:1≤up) (hu2:up≤n) (hx1:1≤x) (hx2:x≤n):
  Calls Proofs.Tryz.prog 99 #[.pointer (some ⟨ga,0,none⟩),.int .i64 up,.int .i64 x] w λe w'=>e= .returned (.bool b)∧Below w.heap.size w w':=by
 refine(callsIn_wide (n:=5)).1 ?_;refine callsIn_of_wp_marks Proofs.Tryz.func99 rfl trivial ?_;simp only[Proofs.Tryz.ntmps99,List.size_toArray,List.length_cons,List.length_nil,Nat.reduceAdd,Nat.reduceSub,Array.replicate_succ,Array.replicate_zero,List.push_toArray,List.append_toArray,List.nil_append,List.cons_append];have c0:((w.alloc (.cells #[.int .i64 up] 3)).alloc (.cells #[.bool false] 4)).cell? ⟨ga,0,none⟩=some (.slice (some ⟨gn,off,none⟩) n cap):=by rw[World.cell?_alloc_past _ _ _ (by simp;omega),World.cell?_alloc_past _ _ _ hga];exact hc
 have n1:=cell_new' w (.int .i64 up) 3;have n2:=cell_new' (w.alloc (.cells #[.int .i64 up] 3)) (.bool false) 4;have n3:=cell_new' ((w.alloc (.cells #[.int .i64 up] 3)).alloc (.cells #[.bool false] 4)) (.pointer (some ⟨ga,0,none⟩)) 25;have n4:=cell_new' (((w.alloc (.cells #[.int .i64 up] 3)).alloc (.cells #[.bool false] 4)).alloc (.cells #[.pointer (some ⟨ga,0,none⟩)] 25)) (.int .i64 x) 3;have n5:=cell_new' ((((w.alloc (.cells #[.int .i64 up] 3)).alloc (.cells #[.bool false] 4)).alloc (.cells #[.pointer (some ⟨ga,0,none⟩)] 25)).alloc (.cells #[.int .i64 x] 3)) (.bool true) 4;simp only[World.size_alloc] at n2 n3 n4 n5;have d1:decide (1≤up∧up≤n)=true:=decide_eq_true ⟨hu1,hu2⟩;have d2:decide (1≤x∧x≤n)=true:=decide_eq_true ⟨hx1,hx2⟩
 gi_wp2
 refine⟨trivial,(callsIn_wide.2 (has84 ga _ n cap up _ c0)).mono ?_⟩;rintro e w' ⟨rfl,rfl⟩;rw[d1]
 gi_wp2
 refine⟨trivial,(callsIn_wide.2 (has84 ga _ n cap x _ c0)).mono ?_⟩;rintro e w' ⟨rfl,rfl⟩;rw[d2]
 gi_wp2
 refine⟨trivial,(callsIn_wide.2 (up209 ga x _)).mono ?_⟩;rintro e w' ⟨rfl,rfl⟩
 gi_wp2
 refine wpIn_range_b (gf:=149) (lb:=#[.pointer (some ⟨w.heap.size+1+1+1,0,none⟩),.pointer (some ⟨w.heap.size+1+1,0,none⟩),.pointer (some ⟨w.heap.size+1+1+1+1,0,none⟩)]) (w.heap.size+1+1+1) b up rfl (Go.Proofs.enters_of Proofs.Tryz.func149 (by kernel_rfl) rfl) (by simp)
  ?hseq rfl
  (λW=>Below w.heap.size w W∧W.cell? ⟨w.heap.size,0,none⟩=some (.int .i64 up)∧W.cell? ⟨w.heap.size+1,0,none⟩=some (.bool false)∧W.frozen? ⟨w.heap.size+1,0,none⟩=false)
  (λW=>Below w.heap.size w W∧W.cell? ⟨w.heap.size+1,0,none⟩=some (.bool true)) ?hI ?hIx ?h0
  (λy=>{tmps:=#[.pointer (some ⟨ga,0,none⟩),.int .i64 up,.int .i64 x,undef,.pointer (some ⟨w.heap.size,0,none⟩),undef,.pointer (some ⟨w.heap.size+1,0,none⟩),.int .i64 y,.pointer (some ⟨ga,0,none⟩),.int .i64 up,.bool true,.bool false,.bool false,.pointer (some ⟨ga,0,none⟩),.int .i64 x,.bool true,.bool false,.bool false,.pointer (some ⟨ga,0,none⟩),.int .i64 x,.func (.func 149) #[] #[.pointer (some ⟨w.heap.size+1+1+1,0,none⟩),.pointer (some ⟨w.heap.size+1+1,0,none⟩),.pointer (some ⟨w.heap.size+1+1+1+1,0,none⟩)],.int .i64 y,undef,undef,undef],defers:=[]})
  ?hassign ?hbody ?hdone ?hstop
 case hI=>rintro A B row ⟨h1,h2,h3,h4⟩ hg hr;have hs1:=lt_of_cell h3;have k1:=box_keep h2 hg (λr e=>by rcases hr r e with rfl|h<;>simp at* <;>omega);have k2:=box_keep h3 hg (λr e=>by rcases hr r e with rfl|h<;>simp at* <;>omega);exact⟨h1.grown hg (by omega) (λk e=>by rcases hr k e with rfl|h<;>simp at* <;>omega),k1.1,k2.1,k2.2.trans h4⟩
 case hIx=>rintro A B row ⟨h1,h3⟩ hg hr;have hs1:=lt_of_cell h3;have k2:=box_keep h3 hg (λr e=>by rcases hr r e with rfl|h<;>simp at* <;>omega);exact⟨h1.grown hg (by omega) (λk e=>by rcases hr k e with rfl|h<;>simp at* <;>omega),k2.1⟩
 case h0=>
  refine⟨(((((Below.refl _ w).alloc (Nat.le_refl _) _).alloc (by simp) _).alloc (by simp;omega) _).alloc (by simp;omega) _).alloc (by simp;omega) _,?_,?_,?_⟩
  ·exact cell_alloc' _ (cell_alloc' _ (cell_alloc' _ (cell_alloc' _ n1.1)))
  ·exact cell_alloc' _ (cell_alloc' _ (cell_alloc' _ n2.1))
  ·rw[frozen_alloc' _ (cell_alloc' _ (cell_alloc' _ n2.1)),frozen_alloc' _ (cell_alloc' _ n2.1),frozen_alloc' _ n2.1];exact n2.2
 case hseq=>
  intro l J Jx W hW hJ hY hj;have kk:∀{k j:Nat} {v:Value},(((((w.alloc (.cells #[.int .i64 up] 3)).alloc (.cells #[.bool false] 4)).alloc (.cells #[.pointer (some ⟨ga,0,none⟩)] 25)).alloc (.cells #[.int .i64 x] 3)).alloc (.cells #[.bool true] 4)).cell? ⟨k,j,none⟩=some v→W.cell? ⟨k,j,none⟩=some v:=
   λ{k j v} h=>by rw[cell?_of_heap (hW.block k (lt_of_cell h))];exact h
  have hs:Seen (w.heap.size+1+1) (w.heap.size+1+1+1+1) ga gn off n cap cs W:=
   ⟨kk (cell_alloc' _ (cell_alloc' _ n3.1)),kk n5.1,kk (cell_alloc' _ (cell_alloc' _ (cell_alloc' _ c0))),λh k v h1 h2 h3 h4=>kk (cell_alloc' _ (cell_alloc' _ (cell_alloc' _ (cell_alloc' _ (cell_alloc' _ (hx h k v h1 h2 h3 h4))))))⟩
  refine up231 4 l (w.heap.size+1+1+1) (w.heap.size+1+1) (w.heap.size+1+1+1+1) _ ga gn off n cap cs up J Jx hJ hY ?_ (by simp) hcap hm W x hs (kk (cell_alloc' _ n4.1)) ?_ (n+1) b hcl hj
  ·rintro b (rfl|rfl|rfl|rfl)<;>simp<;>omega
  ·have:W.frozen? ⟨w.heap.size+1+1+1,0,none⟩=_:=World.frozen?_of_block (hW.block (w.heap.size+1+1+1) (by simp));rw[this,frozen_alloc' _ n4.1];exact n4.2
 case hassign=>
  intro l y W K hK;have hsem:=Oper.semAt_some l
  gi_wp2
  exact hK
 case hbody=>
  rintro l y W ⟨hb,hc1,hc2,hf2⟩;have hsem:=Oper.semAt_some l
  gi_wp2
  ·rename_i he;obtain rfl:y=up:=eq_of_beq he;exact⟨KeepsOthers.setCell _ _ _,⟨hb.setCell (Nat.le_succ _) _,World.cell?_setCell_same _ _ _ hc2⟩,rfl⟩
  ·rename_i he;exact⟨KeepsOthers.refl _,Below.refl _ _,⟨hb,hc1,hc2,hf2⟩,λe=>by subst e;simp at he⟩
 case hdone=>
  rintro D W rfl ⟨hb,hc1,hc2,hf2⟩ hK hD
  gi_wp2
  have hK':=(KeepsOthers.setCell W ⟨w.heap.size+1,0,none⟩ (.bool false)).same D _ hK rfl;have hc5:=cell_kept (World.cell?_setCell_same W ⟨w.heap.size+1,0,none⟩ (.bool false) hc2) (grownBy_putObj' _ D (.deferred none)) (λr e=>by cases e;exact⟨_,hK',rfl⟩);refine⟨by simp,.inl ⟨_,_,rfl,run_takeDeferred hK',?_⟩⟩;refine⟨.bool false,?_,rfl,(hb.setCell (Nat.le_succ _) _).grown (grownBy_putObj' _ D _) (by have:=lt_of_cell hc2;simp;omega) (λk e=>by cases e;simp at hD;omega)⟩;simp[results,Proofs.Tryz.f99,go_sem,hc5]
 case hstop=>
  rintro D W rfl ⟨hb,hc2⟩ hK hD
  gi_wp2
  have hc5:=cell_kept hc2 (grownBy_putObj' _ D (.deferred none)) (λr e=>by cases e;exact⟨_,hK,rfl⟩);refine⟨by simp,.inl ⟨_,_,rfl,run_takeDeferred hK,?_⟩⟩;refine⟨.bool true,?_,rfl,hb.grown (grownBy_putObj' _ D _) (by have:=lt_of_cell hc2;omega) (λk e=>by cases e;simp at hD;omega)⟩;simp[results,Proofs.Tryz.f99,go_sem,hc5]
end Go.Am
end
section
namespace Go.Am
open Go Go.RowKit Go.Shelf
set_option maxRecDepth 100000 in
set_option maxHeartbeats 2000000 in
theorem con168_out (ga:Nat) (p:Option Addr) (n cap:Nat) (up x:Int) (w:World) (hc:w.cell? ⟨ga,0,none⟩=some (.slice p n cap)) (ho:¬(1≤up∧up≤n∧1≤x∧x≤n)):
  Calls Proofs.Tryz.prog 99 #[.pointer (some ⟨ga,0,none⟩),.int .i64 up,.int .i64 x] w λe w'=>e= .returned (.bool false)∧Below w.heap.size w w':=by
 have c0:((w.alloc (.cells #[.int .i64 up] 3)).alloc (.cells #[.bool false] 4)).cell? ⟨ga,0,none⟩=some (.slice p n cap):=cell_alloc' _ (cell_alloc' _ hc);have n2:=cell_new' (w.alloc (.cells #[.int .i64 up] 3)) (.bool false) 4;simp only[World.size_alloc] at n2;have hb:Below w.heap.size w ((w.alloc (.cells #[.int .i64 up] 3)).alloc (.cells #[.bool false] 4)):=((Below.refl _ w).alloc (Nat.le_refl _) _).alloc (by simp) _;refine(callsIn_wide (n:=5)).1 ?_;refine callsIn_of_wp Proofs.Tryz.func99 rfl trivial ?_ rfl;simp only[Proofs.Tryz.ntmps99,List.size_toArray,List.length_cons,List.length_nil,Nat.reduceAdd,Nat.reduceSub,Array.replicate_succ,Array.replicate_zero,List.push_toArray,List.append_toArray,List.nil_append,List.cons_append];by_cases h1:1≤up∧up≤n
 ·have d1:decide (1≤up∧up≤n)=true:=decide_eq_true h1;have d2:decide (1≤x∧x≤n)=false:=decide_eq_false λh2=>ho ⟨h1.1,h1.2,h2.1,h2.2⟩
  gi_wp2
  refine⟨trivial,(callsIn_wide.2 (has84 ga _ n cap up _ c0)).mono ?_⟩;rintro e w' ⟨rfl,rfl⟩;rw[d1]
  gi_wp2
  refine⟨trivial,(callsIn_wide.2 (has84 ga _ n cap x _ c0)).mono ?_⟩;rintro e w' ⟨rfl,rfl⟩;rw[d2]
  gi_wp2
  refine bodyPost_ret (v:= .bool false) ?_ rfl ⟨rfl,hb⟩;simp[results,Proofs.Tryz.f99,go_sem,n2.1]
 ·have d1:decide (1≤up∧up≤n)=false:=decide_eq_false h1
  gi_wp2
  refine⟨trivial,(callsIn_wide.2 (has84 ga _ n cap up _ c0)).mono ?_⟩;rintro e w' ⟨rfl,rfl⟩;rw[d1]
  gi_wp2
  refine⟨trivial,?_⟩
  gi_wp2
  refine bodyPost_ret (v:= .bool false) ?_ rfl ⟨rfl,hb⟩;simp[results,Proofs.Tryz.f99,go_sem,n2.1]
section
variable {h:AHeap}
theorem nodeCell_get {cs:List AVal} {off:Nat} {x:Int} {k:Nat} {v:Int} (e:nodeCell cs off x k=some v):cs[off+(x.toNat-1)*13+k]?=some (.int .i64 v):=by
 unfold nodeCell at e;split at e
 ·rename_i hh
  cases e
  exact hh
 ·cases e
theorem prim168 (n:Nat) (args:List AVal) (r:AVal) (h':AHeap) (hrun:IT.step (afun cx) (IT.run (afun cx) n) (pContains args) h=some (.ret,[r],h')):
  (∃fn c,cx.P.funcs[realOf 99]?=some fn∧(fn.name== "runtime.NumGoroutine")=false∧fn.body=some c)∧
  ∀(γ:Gh) (w:World) (cargs:Array Value),Inv γ h w→(∀g cs,cx.glob g=some cs→VRelM γ cs g 0)→VRelV γ args cargs.toList→
   Calls cx.P (realOf 99) cargs w λe w'=>match e with
    | .returned v=>∃γ',Inv γ' h' w'∧Acc γ w γ' w'∧VRel γ' r v∧(cx.ownRet 99=true→∃s c,OwnT γ' w.heap.size w' s c v r)
    |_=>False:=by
 refine⟨⟨_,_,Proofs.Tryz.func99,rfl,rfl⟩,λγ w cargs hi hg ha=>?_⟩;simp only[pContains,IT.step,meval] at hrun
 cases e0:gContains h args with
 |none=>simp[e0] at hrun
 |some R0=>
 obtain⟨h1,r1⟩:=R0;simp only[e0] at hrun
 cases hrun
 have fin:∀(b:Bool) (cs:Array Value),h'=h→r= .bool b→Calls Proofs.Tryz.prog 99 cs w (λe w'=>e= .returned (.bool b)∧Below w.heap.size w w')→
   Calls cx.P (realOf 99) cs w λe w'=>match e with
    | .returned v=>∃γ',Inv γ' h' w'∧Acc γ w γ' w'∧VRel γ' r v∧(cx.ownRet 99=true→∃s c,OwnT γ' w.heap.size w' s c v r)
    |_=>False:=by
  rintro b cs rfl rfl hc;refine hc.mono λe w' he=>?_;obtain⟨rfl,hb⟩:=he;obtain⟨hi2,ha2⟩:=hi.of_below hb;exact⟨γ,hi2,ha2,rfl,λe=>by cases e⟩
 unfold gContains at e0;split at e0
 ·rename_i id up x;obtain⟨v0,us,hcg,⟨g,hm,rfl⟩,v1,us1,rfl,rfl,v2,us2,rfl,rfl,hnil⟩:=ha
  cases hnil
  have hcargs:cargs=#[.pointer (some ⟨g,0,none⟩),.int .i64 up,.int .i64 x]:=by apply Array.ext';simpa using hcg
  subst hcargs;split at e0
  ·rename_i l hc
   cases e0
   obtain⟨_,y,hy,ry⟩:=hi.cell1 hc hm (j:=0) rfl
   cases ry
   exact fin false _ rfl rfl (con168_out g none 0 0 up x w hy (by omega))
  ·rename_i nid off len l hc;split at e0
   ·rename_i cs hcs;split at e0
    ·rename_i hl;obtain⟨_,y,hy,gn,cap,hmn,rfl,q1,⟨q2,q3⟩,q4⟩:=hi.cell1 hc hm (j:=0) rfl;have hga:g<w.heap.size:=lt_of_cell hy;have hgn:gn<w.heap.size:=by obtain⟨⟨us,e,fr,p1,p2⟩,_⟩:=hi.sz gn _ q4;exact(Array.getElem?_eq_some_iff.1 p1).1
     split at e0
     ·rename_i hr
      cases e1:climb cs off len up (len+1) x with
      |none=>simp[e1] at e0
      |some b=>
       simp only[e1,Option.map_some,Option.some.injEq,Prod.mk.injEq] at e0;obtain⟨rfl,rfl⟩:=e0;refine fin b _ rfl rfl (con168 g gn off len cap cs up x w hga hgn q1 q3 hy (λt k v h1 h2 h3 h4=>?_) b e1 hr.1 hr.2.1 hr.2.2.1 hr.2.2.2);obtain⟨_,z,hz,rz⟩:=hi.cell1 hcs hmn (nodeCell_get h4)
       cases rz
       exact hz
     ·rename_i hr
      cases e0
      exact fin false _ rfl rfl (con168_out g _ len cap up x w hy hr)
    ·cases e0
   ·cases e0
  ·cases e0
 ·cases e0
end
end Go.Am
end
section
namespace Go.Am
open Go Go.RowKit Go.Shelf
theorem isBuilder_below {T e:TypeId} {B b:Nat} {bs:List Value} {W W':World} (h:Lib.IsBuilder T e B b bs W) (hb:Below W.heap.size W W'):Lib.IsBuilder T e B b bs W':=by
 have key:∀p,Lib.BuilderAt T e B b p bs W→Lib.BuilderAt T e B b p bs W':=λp ⟨hB,v,hbk,hown,hne⟩=>by refine⟨hB,v,(hb.block b (Array.getElem?_eq_some_iff.1 hbk).1).trans hbk,?_,hne⟩;exact hown.kept (row:=none) ⟨hb.os,hb.tape,hb.output,hb.size,λk hk _=>hb.block k hk⟩ (Classical.em _)
 exact h.imp (key _) (key _)
theorem byteCells_append (a b:List UInt8):Lib.byteCells (a++b)=Lib.byteCells a++Lib.byteCells b:=by simp[Lib.byteCells]
theorem byteCells_length (a:List UInt8):(Lib.byteCells a).length=a.length:=by simp[Lib.byteCells]
theorem repeat_two (d:Nat):Lib.repeatL [32,32] d=List.replicate (2*d) 32:=by
 induction d with
 |zero=>rfl
 |succ d ih=>rw[Lib.repeatL,ih,show 2*(d+1)=2*d+1+1 by omega,List.replicate_succ,List.replicate_succ];rfl
theorem flat_still:∀a:AVal,a.flat=true→a.still=true
 | .bool _,_=>rfl
 | .int _ _,_=>rfl
 | .str _,_=>rfl
 |a,h=>by cases a<;>first|rfl|simp[AVal.flat] at h
theorem flats_still:∀l:List AVal,l.all AVal.flat=true→stillL l=true
 |[],_=>rfl
 |a::l,h=>by simp only[List.all_cons,Bool.and_eq_true] at h;simp only[stillL,Bool.and_eq_true];exact⟨flat_still a h.1,flats_still l h.2⟩
section
variable {γ:Gh} {h:AHeap} {w:World}
theorem rows_mem (hi:Inv γ h w) {id g:Nat} {cs:List AVal} (hc:h[id]?=some (.cells cs)) (hm:γ.mu id=some g):∀(n o:Nat),o+n≤cs.length→stillLL (rowsFrom cs 1 o n)=true→
  (rowsFrom cs 1 o n).length=n∧VRelR (memGh w) (rowsFrom cs 1 o n) 1 g o
 |0,o,_,_=>⟨rfl,trivial⟩
 |n+1,o,hl,hs=>by
  have hlt:o<cs.length:=by omega
  have e1:(cs.drop o).take 1=[cs[o]]:=by rw[List.drop_eq_getElem_cons hlt];rfl
  have hs':stillL ((cs.drop o).take 1)=true∧stillLL (rowsFrom cs 1 (o+1) n)=true:=by simpa only[rowsFrom,stillLL,Bool.and_eq_true] using hs
  obtain⟨p,q⟩:=rows_mem hi hc hm n (o+1) (by omega) hs'.2;rw[e1] at hs';have hst:cs[o].still=true:=by simpa[stillL] using hs'.1
  obtain⟨u,hu,h1,hr⟩:=cells_mem hi hc hm (List.getElem?_eq_getElem hlt);refine⟨by simp[rowsFrom,p],?_⟩;simp only[rowsFrom,e1];exact⟨rfl,⟨⟨u,memImm hu h1,VRel.mem hi _ _ hst hr⟩,trivial⟩,q⟩
def KidsMem (w:World) (b o:Nat) (kids:List (List AVal)):Prop:=
 ∃v,w.cell? ⟨b,o,none⟩=some v∧((v= .slice none 0 0∧kids=[])∨
  (∃gk ko cap,v= .slice (some ⟨gk,ko,none⟩) kids.length cap∧kids.length≤cap∧cap≤maxLen∧gk<w.heap.size∧VRelR (memGh w) kids 1 gk ko))
theorem gRow_mem (hi:Inv γ h w) {id g:Nat} (hm:γ.mu id=some g) {x:Int} {h1:AHeap} {r:AVal} (e:gRow h [.ptr (some (id,0)),.int .i64 x]=some (h1,r)):
  h1=h∧∃gn off n cap row c kids,r= .tuple [.rptr row,.int .i64 c,.sl 1 kids]∧g<w.heap.size∧gn<w.heap.size∧w.cell? ⟨g,0,none⟩=some (.slice (some ⟨gn,off,none⟩) n cap)∧n≤cap∧cap≤maxLen∧
   1≤x∧x≤n∧VRelM (memGh w) row gn (off+(x.toNat-1)*13)∧w.cell? ⟨gn,off+(x.toNat-1)*13+11,none⟩=some (.int .i64 c)∧KidsMem w gn (off+(x.toNat-1)*13+2) kids:=by
 unfold gRow at e;split at e
 ·rename_i id' x' heq
  cases heq
  split at e
  ·rename_i nid off n l hc;split at e
   ·rename_i cs hcs;split at e
    ·rename_i hx;split at e
     ·rename_i c0 c1 c2 c3 c4 c5 c6 c7 c8 c9 c10 c c12 hrow;split at e
      ·rename_i hst;simp only[stillL,Bool.and_eq_true,and_true] at hst;obtain⟨s0,s1,s3,s4,s5,s6,s7,s8,s9,s10,s12⟩:=hst;obtain⟨_,y,hy,gn,cap,hmn,rfl,q1,⟨q2,q3⟩,q4⟩:=hi.cell1 hc hm (j:=0) rfl;have hgn:gn<w.heap.size:=by obtain⟨⟨us,e,fr,p1,p2⟩,_⟩:=hi.sz gn _ q4;exact(Array.getElem?_eq_some_iff.1 p1).1
       have get:∀(j:Nat) (a:AVal),j<13→[c0,c1,c2,c3,c4,c5,c6,c7,c8,c9,c10,.int .i64 c,c12][j]?=some a→cs[off+(x.toNat-1)*13+j]?=some a:=λj a hj ha=>by rw[←hrow,List.getElem?_take_of_lt hj,List.getElem?_drop] at ha;exact ha
       have key:∀(j:Nat) (a:AVal),j<13→[c0,c1,c2,c3,c4,c5,c6,c7,c8,c9,c10,.int .i64 c,c12][j]?=some a→a.still=true→∃u,(memGh w).imm gn (off+(x.toNat-1)*13+j)=some u∧VRel (memGh w) a u:=λj a hj ha hs=>by obtain⟨u,hu,ho,hr⟩:=cells_mem hi hcs hmn (get j a hj ha);exact⟨u,memImm hu ho,VRel.mem hi _ _ hs hr⟩
       have c11:w.cell? ⟨gn,off+(x.toNat-1)*13+11,none⟩=some (.int .i64 c):=by
        obtain⟨u,hu,_,hr⟩:=cells_mem hi hcs hmn (get 11 _ (by omega) rfl)
        cases hr;exact hu
       obtain⟨u2,hu2,ho2,hr2⟩:=cells_mem hi hcs hmn (get 2 c2 (by omega) rfl);have mk:∀(k2:AVal),(∃u,(memGh w).imm gn (off+(x.toNat-1)*13+2)=some u∧VRel (memGh w) k2 u)→VRelM (memGh w) [c0,c1,k2,c3,c4,c5,c6,c7,c8,c9,c10,.int .i64 c,c12] gn (off+(x.toNat-1)*13):=λk2 h2=>⟨key 0 c0 (by omega) rfl s0,key 1 c1 (by omega) rfl s1,h2,key 3 c3 (by omega) rfl s3,key 4 c4 (by omega) rfl s4,key 5 c5 (by omega) rfl s5,key 6 c6 (by omega) rfl s6,key 7 c7 (by omega) rfl s7,key 8 c8 (by omega) rfl s8,key 9 c9 (by omega) rfl s9,key 10 c10 (by omega) rfl s10,key 11 _ (by omega) rfl rfl,key 12 c12 (by omega) rfl s12,trivial⟩
       have hg:=lt_of_cell hy;split at e
       ·cases e
        cases hr2
        exact⟨rfl,gn,off,n,cap,_,c,[],rfl,hg,hgn,hy,q1,q3,hx.1,hx.2.1,mk _ ⟨_,memImm hu2 ho2,rfl⟩,c11,_,hu2,.inl ⟨rfl,rfl⟩⟩
       ·rename_i kid ko m;split at e
        ·rename_i ks hks;split at e
         ·rename_i hk
          cases e
          obtain⟨gk,capk,hmk,rfl,r1,⟨r2,r3⟩,r4⟩:=hr2;obtain⟨t1,t2⟩:=rows_mem hi hks hmk m ko (by omega) hk.2;have hgk:gk<w.heap.size:=by obtain⟨⟨us,e,fr,p1,p2⟩,_⟩:=hi.sz gk _ r4;exact(Array.getElem?_eq_some_iff.1 p1).1
          refine⟨rfl,gn,off,n,cap,_,c,rowsFrom ks 1 ko m,rfl,hg,hgn,hy,q1,q3,hx.1,hx.2.1,mk _ ⟨_,memImm hu2 ho2,⟨gk,ko,none⟩,capk,by rw[t1],by rw[t1];exact r1,.inl rfl,t2⟩,c11,_,hu2,.inr ⟨gk,ko,capk,by rw[t1],by rw[t1];exact r1,r3,hgk,t2⟩⟩
         ·cases e
        ·cases e
       ·cases e
      ·cases e
     ·cases e
    ·cases e
   ·cases e
  ·cases e
 ·cases e
theorem line146 {n:Nat} (hs:SimCalls cx (IT.run (afun cx) n)) (hi:Inv γ h w) (hg:∀g cs,cx.glob g=some cs→VRelM γ cs g 0) {row:List AVal} {s:Bytes} {h1:AHeap} (e:IT.run (afun cx) n (afun cx 78 [.rptr row]) []=some (.ret,[.str s],h1))
  {W:World} (hb:Below w.heap.size w W) {gn o:Nat} (hr:VRelM (memGh w) row gn o):
  Calls Proofs.Tryz.prog 78 #[.pointer (some ⟨gn,o,none⟩)] W λe W'=>e= .returned (.string ⟨⟨s⟩⟩)∧Below W.heap.size W W':=by
 refine((hs.2 78 _ _ _ _ e).2 (memGh W) W #[.pointer (some ⟨gn,o,none⟩)] (memInv W) (λg cs hgc=>VRelM.mono (memGh_le hb) cs g 0 (VRelM.mem hi cs g 0 (flats_still cs (hs.1.1 g cs hgc)) (hg g cs hgc)))
  ⟨_,_,rfl,⟨gn,o,rfl,VRelM.mono (memGh_le hb) row gn o hr⟩,rfl⟩).mono λe W' he=>?_
 cases e with
 |returned v=>
  obtain⟨γ',_,ha,hv,_⟩:=he
  cases hv
  exact⟨rfl,ha.os,ha.tape,ha.output,ha.size,λk hk=>(ha.keep k hk (λid=>by simp[memGh])).1⟩
 |_=>exact he.elim
end
end Go.Am
end
section
namespace Go.Am
open Go Go.RowKit Go.Shelf
theorem kids_at {w:World} {b o:Nat} {kids:List (List AVal)} (h:KidsMem w b o kids):∃p cap,w.cell? ⟨b,o,none⟩=some (.slice p kids.length cap)∧kids.length≤cap∧cap≤maxLen∧
  ∀(i:Nat) (y:Int),kids[i]?=some [.int .i64 y]→∃gk ko,p=some ⟨gk,ko,none⟩∧gk<w.heap.size∧w.cell? ⟨gk,ko+i,none⟩=some (.int .i64 y):=by
 obtain⟨v,hv,(⟨rfl,rfl⟩|⟨gk,ko,cap,rfl,h1,h2,h3,h4⟩)⟩:=h
 ·exact⟨none,0,hv,Nat.le_refl _,by decide,λi y hi=>by simp at hi⟩
 ·refine⟨_,cap,hv,h1,h2,λi y hi=>⟨gk,ko,rfl,h3,?_⟩⟩;obtain⟨_,⟨u,hu,hr⟩,_⟩:=VRelR.get h4 hi
  cases hr
  have:=hu;simp only[memGh,Option.filter_eq_some_iff] at this;simpa using this.1
theorem strCells_mk (l:List UInt8):Lib.strCells ⟨l.toArray⟩=Lib.byteCells l:=by simp[Lib.strCells,Lib.byteCells]
theorem strCells_mk' (l:List UInt8):Lib.strCells ⟨⟨l⟩⟩=Lib.byteCells l:=by simp[Lib.strCells,Lib.byteCells]
theorem wrap_succ' (i n:Nat) (h:i<n) (hn:n≤9223372036854775807):wrap64 ((i:Int)+1)=((i+1:Nat):Int):=by rw[Go.IntWalk.wrap64_in _ ⟨by omega,by omega⟩];omega
theorem wrap_succ (d:Nat) (h:d≤2000000000):wrap64 ((d:Int)+1)=((d+1:Nat):Int):=by rw[Go.IntWalk.wrap64_in _ ⟨by omega,by omega⟩];omega
abbrev Con (g:Nat) (w0:World) (x:Int) (d:Nat) (acc acc':Bytes):Prop:=
 ∀(B b:Nat) (W:World),w0.heap.size≤B→B≤W.heap.size→Below w0.heap.size w0 W→Lib.IsBuilder 75 5 B b (Lib.byteCells acc) W→
  Calls Proofs.Tryz.prog 34 #[.pointer (some ⟨g,0,none⟩),.pointer (some ⟨b,0,none⟩),.int .i64 x,.int .i64 d] W λe W'=>(∃v,e= .returned v)∧Lib.IsBuilder 75 5 B b (Lib.byteCells acc') W'∧Below B W W'
theorem hide {p:Prop} (h:p):Hid p:=h
theorem cell_below {w0 W':World} {k j:Nat} {v:Value} (hb:Below w0.heap.size w0 W') (h:w0.cell? ⟨k,j,none⟩=some v):W'.cell? ⟨k,j,none⟩=some v:=by rw[cell?_of_heap (hb.block k (lt_of_cell h))];exact h
def lastOf:Code→Code
 | .seq _ c=>lastOf c
 | .block _ c=>c
 |c=>c
noncomputable def tail85:Code:=match Proofs.Tryz.f34.body with
 |some c=>lastOf c
 |none=> .skip
set_option maxRecDepth 100000 in
set_option maxHeartbeats 2000000 in
theorem loop85 {w0 W W6:World} {g B b d capk:Nat} {p:Option Addr} {kids:List (List AVal)} (hB:w0.heap.size≤B) (hBW:B≤W.heap.size) (hb:Below w0.heap.size w0 W) (hd:d≤2000000000)
  (hk2:kids.length≤capk) (hk3:capk≤maxLen) (hk4:∀(i:Nat) (y:Int),kids[i]?=some [.int .i64 y]→∃gk ko,p=some ⟨gk,ko,none⟩∧gk<w0.heap.size∧w0.cell? ⟨gk,ko+i,none⟩=some (.int .i64 y))
  (f:Nat→Bytes) (hf:∀i,i<kids.length→∃y,kids[i]?=some [.int .i64 y]∧Con g w0 y (d+1) (f i) (f (i+1))) (bb6:Below B W W6) (l6:Lib.IsBuilder 75 5 B b (Lib.byteCells (f 0)) W6)
  (z2 z4 z5 z6 z7 z8 z9 z10 z11 z12 z13 z14 z15 z16 z17 z18 z19 z20 z21 z22 z23 z24 z25 z26 z27 z28 z29 z30 z31 z32 z33 z34 z35 z36 z37 z38 z39 z40 z41 z42 z43 z44 z45 z49 z50 z51 z52 z53 z54 z55 z56 z57 z58:Value):
  tail85.wpIn Fence.wide 5 Proofs.Tryz.prog (Exit.inBlock 0<|bodyPost Proofs.Tryz.prog Proofs.Tryz.f34 λe W'=>(∃v,e= .returned v)∧Lib.IsBuilder 75 5 B b (Lib.byteCells (f kids.length)) W'∧Below B W W')
   {tmps:=#[.pointer (some ⟨g,0,none⟩),.pointer (some ⟨b,0,none⟩),z2,.int .i64 d,z4,z5,z6,z7,z8,z9,z10,z11,z12,z13,z14,z15,z16,z17,z18,z19,z20,z21,z22,z23,z24,z25,z26,z27,z28,z29,z30,z31,z32,z33,z34,z35,z36,z37,z38,z39,z40,z41,z42,z43,z44,z45,.slice p kids.length capk,.int .i64 kids.length,.int .i64 0,z49,z50,z51,z52,z53,z54,z55,z56,z57,z58],defers:=[]} W6:=by
 simp only[tail85,lastOf,Proofs.Tryz.f34]
 gi_loopg [48] kids.length (λk v wr=>∃i,i≤kids.length∧k=kids.length-i∧v= .int .i64 (i:Nat)∧Below B W wr∧Lib.IsBuilder 75 5 B b (Lib.byteCells (f i)) wr)
 case atStart=>exact⟨0,Nat.zero_le _,rfl,rfl,bb6,l6⟩
 case round=>
  obtain⟨i,hi,rfl,rfl,bbi,li⟩:=hrel;by_cases hlt:i<kids.length
  ·obtain⟨y,hy,hcon2⟩:=hf i hlt;obtain⟨gk,ko,rfl,hgk,hcell⟩:=hk4 i y hy;have hbi:Below w0.heap.size w0 wr:=hb.trans (bbi.mono hB);have ci:=cell_below hbi hcell;have hlti:(i:Int)<(kids.length:Int):=by exact_mod_cast hlt
   have hwi:=wrap_succ' i _ hlt (Nat.le_trans hk2 hk3);have hwd:=wrap_succ d hd;have hcc:=hcon2 B b _ hB (Nat.le_trans hBW bbi.size) hbi li;clear hcon2 hf hk4 hk2 hk3 hbi li l6 bb6 hcell hy hgk hB hBW hb;rw[show((d+1:Nat):Int)=(d:Int)+1 from rfl] at hcc
   gi_wp2
   refine⟨trivial,(callsIn_wide.2 hcc).mono ?_⟩;rintro e W7 ⟨⟨v,rfl⟩,l7,b7⟩
   gi_wp2
   gi_roundg (kids.length-(i+1))
   case measure=>exact Nat.sub_lt_sub_left hlt (Nat.lt_succ_self i)
   case rel=>
    refine⟨i+1,hlt,rfl,?_,bbi.trans b7,l7⟩
    first|rfl|exact congrArg (Value.int .i64) hwi
  ·obtain rfl:i=kids.length:=Nat.le_antisymm hi (Nat.le_of_not_lt hlt)
   gi_wp2
   go_end0
   exact⟨⟨_,rfl⟩,li,bbi⟩
set_option maxRecDepth 100000 in
set_option maxHeartbeats 2000000 in
theorem walk85 {w0:World} {g gn off n cap:Nat} {c x:Int} {kids:List (List AVal)} (hgs:g<w0.heap.size) (hgn:gn<w0.heap.size) (hc:w0.cell? ⟨g,0,none⟩=some (.slice (some ⟨gn,off,none⟩) n cap)) (hcap:n≤cap) (hm:cap≤maxLen)
  (hx1:1≤x) (hx2:x≤n) (h11:w0.cell? ⟨gn,off+(x.toNat-1)*13+11,none⟩=some (.int .i64 c)) (hk:KidsMem w0 gn (off+(x.toNat-1)*13+2) kids)
  {d:Nat} (hd:d≤2000000000) {acc acc2 s:Bytes}
  (hline:∀W,Below w0.heap.size w0 W→Calls Proofs.Tryz.prog 78 #[.pointer (some ⟨gn,off+(x.toNat-1)*13,none⟩)] W λe W'=>e= .returned (.string ⟨⟨s⟩⟩)∧Below W.heap.size W W')
  (hlen:(acc++List.replicate (2*d) 32++s++[10]).length≤maxBytes)
  (hcont:(c=0∧acc2=acc++List.replicate (2*d) 32++s++[10])∨(c≠0∧Con g w0 c (d+1) (acc++List.replicate (2*d) 32++s++[10]) acc2))
  (f:Nat→Bytes) (hf0:f 0=acc2) (hf:∀i,i<kids.length→∃y,kids[i]?=some [.int .i64 y]∧Con g w0 y (d+1) (f i) (f (i+1))):
  Con g w0 x d acc (f kids.length):=by
 intro B b W hB hBW hb hbl;obtain⟨p,capk,hk1,hk2,hk3,hk4⟩:=kids_at hk;have hmb:maxBytes=140737488355328:=rfl;simp only[List.length_append,List.length_replicate,List.length_cons,List.length_nil] at hlen;have m1:2*d≤140737488355328:=by rw[hmb] at hlen;omega
 have m2:(Lib.byteCells acc).length+(⟨(List.replicate (2*d) (32:UInt8)).toArray⟩:ByteArray).size≤140737488355328:=by rw[hmb] at hlen;rw[byteCells_length];simp only[ByteArray.size,List.size_toArray,List.length_replicate];omega
 have m3:(Lib.byteCells (acc++List.replicate (2*d) 32)).length+(⟨⟨s⟩⟩:ByteArray).size≤140737488355328:=by rw[hmb] at hlen;rw[byteCells_length];simp only[ByteArray.size,List.length_append,List.length_replicate];show _+s.length≤_;omega
 have m4:(Lib.byteCells (acc++List.replicate (2*d) 32++s)).length+1≤140737488355328:=by rw[hmb] at hlen;rw[byteCells_length];simp only[List.length_append,List.length_replicate];omega
 have m5:d≤9223372036854775807:=Nat.le_trans hd (by decide);clear hlen hmb;have Hline:=hide hline;have Hcont:=hide hcont;have Hf:=hide hf;have Hk4:=hide hk4;have Hk2:=hide hk2;have Hk3:=hide hk3;clear hline hcont hf hk4 hk hk2 hk3;refine(callsIn_wide (n:=5)).1 ?_;refine callsIn_of_wp Proofs.Tryz.func34 rfl trivial ?_ rfl;simp only[Proofs.Tryz.ntmps34,List.size_toArray,List.length_cons,List.length_nil,Nat.reduceAdd,Nat.reduceSub,Array.replicate_succ,Array.replicate_zero,List.push_toArray,List.append_toArray,List.nil_append,List.cons_append]
 gi_wp2
 refine⟨trivial,(callsIn_wide.2 (at43 g gn off n cap x _ (cell_below hb hc) hx1 hx2 hcap hm)).mono ?_⟩;rintro e w' ⟨rfl,rfl⟩
 gi_wp2
 refine⟨trivial,(callsIn_wide.2 (Proofs.Tryz.strings_Repeat ⟨#[32,32]⟩ d _ m5 m1)).mono ?_⟩;rintro e W1 ⟨rfl,b1⟩;have hb1:Below w0.heap.size w0 W1:=hb.trans (b1.mono hb.size);have bb1:Below B W W1:=b1.mono hBW;have l1:=isBuilder_below hbl b1;have hr:(Lib.repeatL (⟨#[32,32]⟩:ByteArray).data.toList d)=List.replicate (2*d) 32:=repeat_two d;rw[hr]
 gi_wp2
 refine⟨trivial,(callsIn_wide.2 (Proofs.Tryz.Builder_WriteString B b (Lib.byteCells acc) _ _ l1 m2 (Nat.le_trans hBW bb1.size))).mono ?_⟩;rintro e W2 ⟨rfl,l2,b2⟩;rw[strCells_mk,←byteCells_append] at l2;have bb2:=bb1.trans b2;have hb2:Below w0.heap.size w0 W2:=hb1.trans (b2.mono hB)
 gi_wp2
 refine⟨trivial,(callsIn_wide.2 (Hline.out _ hb2)).mono ?_⟩;rintro e W3 ⟨rfl,b3⟩;have hb3:Below w0.heap.size w0 W3:=hb2.trans (b3.mono hb2.size);have bb3:Below B W W3:=bb2.trans (b3.mono (Nat.le_trans hBW bb2.size));have l3:=isBuilder_below (.inr l2) b3
 gi_wp2
 refine⟨trivial,(callsIn_wide.2 (Proofs.Tryz.Builder_WriteString B b _ _ _ l3 m3 (Nat.le_trans hBW bb3.size))).mono ?_⟩;rintro e W4 ⟨rfl,l4,b4⟩;rw[strCells_mk',←byteCells_append] at l4;have bb4:=bb3.trans b4;have hb4:Below w0.heap.size w0 W4:=hb3.trans (b4.mono hB)
 gi_wp2
 refine⟨trivial,(callsIn_wide.2 (Proofs.Tryz.Builder_WriteByte B b _ 10 _ (.inr l4) m4 (Nat.le_trans hBW bb4.size))).mono ?_⟩;rintro e W5 ⟨rfl,l5,b5⟩;have e10:Lib.byteCells (acc++List.replicate (2*d) 32++s)++[Value.int .u8 10]=Lib.byteCells (acc++List.replicate (2*d) 32++s++[10]):=by rw[byteCells_append (acc++List.replicate (2*d) 32++s) [10]];rfl
 replace l5:=e10▸l5;have bb5:=bb4.trans b5;have hb5:Below w0.heap.size w0 W5:=hb4.trans (b5.mono hB);have c5:=cell_below hb5 h11;clear hcap hm hx1 hx2 hc m1 m2 m3 m4 m5 l1 l3 l4 l2;rcases Hcont.out with⟨rfl,rfl⟩|⟨hc0,hcon⟩
 ·have bb6:=bb5;have l6:Lib.IsBuilder 75 5 B b (Lib.byteCells (f 0)) W5:=by rw[hf0];exact .inr l5
  have ck:=cell_below hb5 hk1
  gi_wp2
  exact loop85 hB hBW hb hd Hk2.out Hk3.out Hk4.out f Hf.out bb6 l6 _ _ _ _ _ _ _ _ _ _ _ _ _ _ _ _ _ _ _ _ _ _ _ _ _ _ _ _ _ _ _ _ _ _ _ _ _ _ _ _ _ _ _ _ _ _ _ _ _ _ _ _ _
 ·have hne:(c != 0)=true:=by simp[hc0]
  have hwd:=wrap_succ d hd;have hcc0:=hcon B b _ hB (Nat.le_trans hBW bb5.size) hb5 (.inr l5);rw[show((d+1:Nat):Int)=(d:Int)+1 from rfl] at hcc0
  gi_wp2
  refine⟨trivial,(callsIn_wide.2 hcc0).mono ?_⟩;rintro e W6 ⟨⟨v,rfl⟩,l6',b6⟩;have bb6:=bb5.trans b6;have hb6:Below w0.heap.size w0 W6:=hb5.trans (b6.mono hB);have l6:Lib.IsBuilder 75 5 B b (Lib.byteCells (f 0)) W6:=by rw[hf0];exact l6'
  have ck:=cell_below hb6 hk1
  gi_wp2
  exact loop85 hB hBW hb hd Hk2.out Hk3.out Hk4.out f Hf.out bb6 l6 _ _ _ _ _ _ _ _ _ _ _ _ _ _ _ _ _ _ _ _ _ _ _ _ _ _ _ _ _ _ _ _ _ _ _ _ _ _ _ _ _ _ _ _ _ _ _ _ _ _ _ _ _
end Go.Am
end
section
namespace Go.Am
open Go Go.RowKit Go.Shelf
section
variable {γ:Gh} {h:AHeap} {w0:World}
abbrev kidK (fuel d:Nat) (a:AVal):List AVal→(Bytes→IT)→Bytes→IT:=λkid K acc=>match kid with
 |[.int .i64 y]=>dumpTree 78 a fuel y (d+1) acc K
 |_=> .fail
theorem kids_con {run:IT→AHeap→Option Res} {g fuel d:Nat} {a:AVal} (ih:∀(x:Int) (acc:Bytes) (k:Bytes→IT) (res:Res),IT.step (afun cx) run (dumpTree 78 a fuel x (d+1) acc k) h=some res→∃acc',IT.step (afun cx) run (k acc') h=some res∧Con g w0 x (d+1) acc acc'):
  ∀(kids:List (List AVal)) (acc:Bytes) (k:Bytes→IT) (res:Res),IT.step (afun cx) run (kids.foldr (kidK fuel d a) k acc) h=some res→
   ∃f:Nat→Bytes,f 0=acc∧IT.step (afun cx) run (k (f kids.length)) h=some res∧∀i,i<kids.length→∃y,kids[i]?=some [.int .i64 y]∧Con g w0 y (d+1) (f i) (f (i+1))
 |[],acc,k,res,e=>⟨λ_=>acc,rfl,e,λi hi=>by simp at hi⟩
 |kid::kids,acc,k,res,e=>by
  simp only[List.foldr_cons] at e;unfold kidK at e;split at e
  ·rename_i y;obtain⟨acc1,e1,c1⟩:=ih _ _ _ _ e;obtain⟨f,f0,f1,f2⟩:=kids_con ih kids acc1 k res e1;refine⟨λ|0=>acc|i+1=>f i,rfl,f1,λi hi=>?_⟩
   cases i with
   |zero=>
    have hc:Con g w0 y (d+1) acc (f 0):=by rw[f0];exact c1
    exact⟨y,rfl,hc⟩
   |succ i=>obtain⟨y',p,q⟩:=f2 i (by simpa using hi);exact⟨y',by simpa using p,q⟩
  ·cases e
theorem dump_ptr {run:IT→AHeap→Option Res} {a:AVal} {x:Int} {d:Nat} {acc:Bytes} {k:Bytes→IT} {res:Res} (fuel:Nat) (e:IT.step (afun cx) run (dumpTree 78 a fuel x d acc k) h=some res):∃id,a= .ptr (some (id,0)):=by
 cases fuel with
 |zero=>simp[dumpTree,IT.step] at e
 |succ fuel=>
  simp only[dumpTree,IT.step,meval] at e
  cases e0:gRow h [a,.int .i64 x] with
  |none=>simp[e0] at e
  |some R0=>
   unfold gRow at e0;split at e0
   ·rename_i id x' heq
    cases heq
    exact⟨id,rfl⟩
   ·cases e0
theorem dump_con {n:Nat} (hs:SimCalls cx (IT.run (afun cx) n)) (hi:Inv γ h w0) (hg:∀g cs,cx.glob g=some cs→VRelM γ cs g 0) {id g:Nat} (hm:γ.mu id=some g):
  ∀(fuel:Nat) (x:Int) (d:Nat) (acc:Bytes) (k:Bytes→IT) (res:Res),d+fuel≤2000000000→IT.step (afun cx) (IT.run (afun cx) n) (dumpTree 78 (.ptr (some (id,0))) fuel x d acc k) h=some res→
   ∃acc',IT.step (afun cx) (IT.run (afun cx) n) (k acc') h=some res∧Con g w0 x d acc acc'∧∃p cap ln,w0.cell? ⟨g,0,none⟩=some (.slice p ln cap)∧1≤x∧x≤ln
 |0,x,d,acc,k,res,_,e=>by simp[dumpTree,IT.step] at e
 |fuel+1,x,d,acc,k,res,hd,e=>by
  simp only[dumpTree,IT.step,meval] at e
  cases e0:gRow h [.ptr (some (id,0)),.int .i64 x] with
  |none=>simp[e0] at e
  |some R0=>
  obtain⟨h1,r⟩:=R0;simp only[e0] at e;obtain⟨hh,gn,off,nn,cap,row,c,kids,rfl,hgs,hgn,hc,hcap,hmx,hx1,hx2,hrow,h11,hk⟩:=gRow_mem hi hm e0;simp only[IT.step] at e;rw[hh] at e;clear hh
  cases e1:IT.run (afun cx) n (afun cx 78 [.rptr row]) [] with
  |none=>simp[e1] at e
  |some R1=>
  simp only[e1] at e;split at e
  ·rename_i r1 h1' heq
   cases heq
   split at e
   ·split at e
    ·rename_i s hfl;split at e
     ·rename_i hlen;have ih:∀(x:Int) (acc:Bytes) (k:Bytes→IT) (res:Res),IT.step (afun cx) (IT.run (afun cx) n) (dumpTree 78 (.ptr (some (id,0))) fuel x (d+1) acc k) h=some res→∃acc',IT.step (afun cx) (IT.run (afun cx) n) (k acc') h=some res∧Con g w0 x (d+1) acc acc':=λx acc k res e=>by obtain⟨acc',p,q,_⟩:=dump_con hs hi hg hm fuel x (d+1) acc k res (by omega) e;exact⟨acc',p,q⟩
      have hline:∀W,Below w0.heap.size w0 W→Calls Proofs.Tryz.prog 78 #[.pointer (some ⟨gn,off+(x.toNat-1)*13,none⟩)] W λe W'=>e= .returned (.string ⟨⟨s⟩⟩)∧Below W.heap.size W W':=
       λW hb=>line146 hs hi hg e1 hb hrow
      have fin:∀acc2,((c=0∧acc2=acc++List.replicate (2*d) 32++s++[10])∨(c≠0∧Con g w0 c (d+1) (acc++List.replicate (2*d) 32++s++[10]) acc2))→
        IT.step (afun cx) (IT.run (afun cx) n) (kids.foldr (kidK fuel d (.ptr (some (id,0)))) k acc2) h=some res→∃acc',IT.step (afun cx) (IT.run (afun cx) n) (k acc') h=some res∧Con g w0 x d acc acc'∧∃p cap ln,w0.cell? ⟨g,0,none⟩=some (.slice p ln cap)∧1≤x∧x≤ln:=by
       intro acc2 hcont e2;obtain⟨f,f0,f1,f2⟩:=kids_con ih kids acc2 k res e2;exact⟨f kids.length,f1,walk85 hgs hgn hc hcap hmx hx1 hx2 h11 hk (by omega) hline hlen hcont f f0 f2,_,_,_,hc,hx1,hx2⟩
      split at e
      ·rename_i hc0;exact fin _ (.inl ⟨hc0,rfl⟩) e
      ·rename_i hc0;obtain⟨acc2,p,q⟩:=ih _ _ _ _ e;exact fin acc2 (.inr ⟨hc0,q⟩) p
     ·cases e
    ·cases e
   ·cases e
  ·cases e
end
set_option maxRecDepth 100000 in
set_option maxHeartbeats 2000000 in
theorem walk34 {w0:World} {g ln cap:Nat} {p:Option Addr} {x:Int} {s:Bytes} (hgs:g<w0.heap.size) (hc:w0.cell? ⟨g,0,none⟩=some (.slice p ln cap)) (hx1:1≤x) (hx2:x≤ln) (hcon:Con g w0 x 0 [] s):
  Calls Proofs.Tryz.prog 14 #[.pointer (some ⟨g,0,none⟩),.int .i64 x] w0 λe w'=>e= .returned (.string ⟨⟨s⟩⟩)∧Below w0.heap.size w0 w':=by
 have d1:decide (1≤x∧x≤ln)=true:=decide_eq_true ⟨hx1,hx2⟩;have hnew:(w0.alloc (.cells #[.pointer none,.slice none 0 0] 75)).heap[w0.heap.size]?=some (.cells #[.pointer none,.slice none 0 0] 75 (0,0)):=World.alloc_heap_new w0 _;have hb1:Below w0.heap.size w0 (w0.alloc (.cells #[.pointer none,.slice none 0 0] 75)):=(Below.refl _ w0).alloc (Nat.le_refl _) _;have l1:Lib.IsBuilder 75 5 w0.heap.size w0.heap.size (Lib.byteCells []) (w0.alloc (.cells #[.pointer none,.slice none 0 0] 75)):=
  .inl ⟨Nat.le_refl _,.slice none 0 0,hnew,World.ownsRow_nil _ _ _ _,by simp[Value.ownBlock]⟩
 have hcc:=hcon w0.heap.size w0.heap.size _ (Nat.le_refl _) (by simp) hb1 l1;rw[show((0:Nat):Int)=0 from rfl] at hcc;refine(callsIn_wide (n:=5)).1 ?_;refine callsIn_of_wp Proofs.Tryz.func14 rfl trivial ?_ rfl;simp only[Proofs.Tryz.ntmps14,List.size_toArray,List.length_cons,List.length_nil,Nat.reduceAdd,Nat.reduceSub,Array.replicate_succ,Array.replicate_zero,List.push_toArray,List.append_toArray,List.nil_append,List.cons_append]
 gi_wp2
 refine⟨trivial,(callsIn_wide.2 (has84 g _ ln cap x _ hc)).mono ?_⟩;rintro e w' ⟨rfl,rfl⟩;rw[d1]
 gi_wp2
 refine⟨trivial,(callsIn_wide.2 hcc).mono ?_⟩;rintro e W2 ⟨⟨v,rfl⟩,l2,b2⟩
 gi_wp2
 refine⟨trivial,(callsIn_wide.2 (Proofs.Tryz.Builder_String_any w0.heap.size w0.heap.size s _ l2 (by have:=b2.size;have:=hb1.size;omega))).mono ?_⟩;rintro e W3 ⟨rfl,b3⟩
 gi_wp2
 refine bodyPost_ret (results_tmp rfl _ _ _) rfl ?_;exact⟨rfl,(hb1.trans b2).trans b3⟩
theorem prim34 {h:AHeap} (n:Nat) (hs:SimCalls cx (IT.run (afun cx) n)) (args:List AVal) (r:AVal) (h':AHeap) (hrun:IT.step (afun cx) (IT.run (afun cx) n) (pDump 78 args) h=some (.ret,[r],h')):
  (∃fn c,cx.P.funcs[realOf 14]?=some fn∧(fn.name== "runtime.NumGoroutine")=false∧fn.body=some c)∧
  ∀(γ:Gh) (w:World) (cargs:Array Value),Inv γ h w→(∀g cs,cx.glob g=some cs→VRelM γ cs g 0)→VRelV γ args cargs.toList→
   Calls cx.P (realOf 14) cargs w λe w'=>match e with
    | .returned v=>∃γ',Inv γ' h' w'∧Acc γ w γ' w'∧VRel γ' r v∧(cx.ownRet 14=true→∃s c,OwnT γ' w.heap.size w' s c v r)
    |_=>False:=by
 refine⟨⟨_,_,Proofs.Tryz.func14,rfl,rfl⟩,λγ w cargs hi hg ha=>?_⟩;have hptr:∃id x,args=[.ptr (some (id,0)),.int .i64 x]:=by
  unfold pDump at hrun;split at hrun
  ·rename_i a x;obtain⟨id,rfl⟩:=dump_ptr _ hrun;exact⟨id,x,rfl⟩
  ·cases hrun
 obtain⟨id,x,rfl⟩:=hptr;obtain⟨v0,us,hcg,⟨g,hm,rfl⟩,v1,us1,rfl,rfl,hnil⟩:=ha
 cases hnil
 have hcargs:cargs=#[.pointer (some ⟨g,0,none⟩),.int .i64 x]:=by apply Array.ext';simpa using hcg
 subst hcargs;simp only[pDump] at hrun;obtain⟨acc,e1,hcon,p,cap,ln,hc,hx1,hx2⟩:=dump_con hs hi hg hm 1000000000 x 0 [] _ _ (by omega) hrun
 cases e1
 refine(walk34 (lt_of_cell hc) hc hx1 hx2 hcon).mono λe w' he=>?_;obtain⟨rfl,hb⟩:=he;obtain⟨hi2,ha2⟩:=hi.of_below hb;exact⟨γ,hi2,ha2,rfl,λe=>by cases e⟩
end Go.Am
end
