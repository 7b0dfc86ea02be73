/- Lemmas -/
import Derived.Test.YtjboelmdplaenaaGreatDoorQ17
import Derived.Shelf.Slices.Clone
import Derived.Maps.OwnIn
set_option linter.unusedVariables false
set_option linter.unusedSimpArgs false
section
namespace Go.Proofs
open Go.Shelf
def Tryz.laysC15_ren:Go.Shelf.Ren:=⟨λ|15=>67|n=>n,λ|22=>28|3=>3|4=>4|0=>0|n=>n,λ|n=>n⟩
theorem Tryz.laysC15:Go.Proofs.Lays2.n15 Tryz.prog Tryz.laysC15_ren:={
 mixed:=by kernel_rfl
 f15:=Tryz.func67.trans (congrArg some (by kernel_rfl))
 t3:=Tryz.underlying3
 a3:=Tryz.isAgg3
 z3:=Tryz.sizeOf3
 v3:=Tryz.zeroValue3
 t4:=Tryz.underlying4
 a4:=Tryz.isAgg4
 z4:=Tryz.sizeOf4
 v4:=Tryz.zeroValue4
 t22:=Tryz.underlying28
 a22:=Tryz.isAgg28
 z22:=Tryz.sizeOf28
 v22:=Tryz.zeroValue28
 i3:=by kernel_rfl}
end Go.Proofs
namespace Go.Am
open Go Go.RowKit Go.Shelf
def KidsM (g:Nat) (w:World) (x:Int) (l:List Int):Prop:=
 ∃gn off n cap,w.cell? ⟨g,0,none⟩=some (.slice (some ⟨gn,off,none⟩) n cap)∧1≤x∧x≤(n:Nat)∧n≤cap∧cap≤maxLen∧
  ((w.cell? ⟨gn, off + (x.toNat - 1) * 13 + 2, none⟩ = some (.slice none 0 0) ∧ l = []) ∨
   ∃ gk ko capk, w.cell? ⟨gn, off + (x.toNat - 1) * 13 + 2, none⟩ = some (.slice (some ⟨gk, ko, none⟩) l.length capk) ∧ l.length * 8 ≤ 140737488355328 ∧ ∀ j, j < l.length → w.cell? ⟨gk, ko + j, none⟩ = some (.int .i64 (l.getD j 0)))
theorem KidsM.below {g:Nat} {w W:World} {x:Int} {l:List Int} (hb:Below w.heap.size w W):KidsM g w x l→KidsM g W x l
 |⟨gn,off,n,cap,h1,h2,h3,h4,h5,h6⟩=>by
  refine⟨gn,off,n,cap,by rw[cell?_of_heap (hb.block _ (lt_of_cell h1))];exact h1,h2,h3,h4,h5,?_⟩;rcases h6 with⟨h6,e⟩|⟨gk,ko,capk,h6,h7,h8⟩
  ·exact .inl ⟨by rw[cell?_of_heap (hb.block _ (lt_of_cell h6))];exact h6,e⟩
  ·exact .inr ⟨gk,ko,capk,by rw[cell?_of_heap (hb.block _ (lt_of_cell h6))];exact h6,h7,λj hj=>by rw[cell?_of_heap (hb.block _ (lt_of_cell (h8 j hj)))];exact h8 j hj⟩
def SlI (lo:Nat) (W:World) (v:Value) (l:List Int):Prop:=(v= .slice none 0 0∧l=[])∨∃b cap cur t,v= .slice (some ⟨b,0,none⟩) l.length cap∧lo≤b∧W.heap[b]?=some (.cells cur t (0,0))∧l.length≤cap∧cap≤maxLen∧cur.toList.take l.length=l.map (Value.int .i64)
theorem pcell_take {W:World} {b:Nat} {cur:Array Value} {t:TypeId} {l:List Int} (hc:W.heap[b]?=some (.cells cur t (0,0))) (ht:cur.toList.take l.length=l.map (Value.int .i64)) {j:Nat} (hj:j<l.length):W.cell? ⟨b,j,none⟩=some (.int .i64 l[j]):=by
 have e:(cur.toList.take l.length)[j]?=some (Value.int .i64 l[j]):=by rw[ht];simp[hj]
 rw[List.getElem?_take_of_lt hj] at e;simp[World.cell?,hc,←Array.getElem?_toList,e]
theorem yield_any {n k:Nat} {P:Program} {l:Nat} {args:Array Value} {W:World} {R:Ending→World→Prop}:YieldAt Fence.wide n P l args W R→YieldAt Fence.wide k P l args W R
 |⟨fn,tmps,assign,body,hy,h1,h2⟩=>⟨fn,tmps,assign,body,hy,h1,λc cs _=>h2 c cs (room_wide _)⟩
set_option maxRecDepth 100000 in
set_option maxHeartbeats 2000000 in
theorem kids84 {g:Nat} {x:Int} {l:List Int} {w:World} (k:KidsM g w x l):
  Calls Proofs.Tryz.prog 73 #[.pointer (some ⟨g,0,none⟩),.int .i64 x] w λe W=>∃v,e= .returned v∧SlI w.heap.size W v l∧Below w.heap.size w W:=by
 obtain⟨gn,off,n,cap,h1,h2,h3,h4,h5,h6⟩:=k;have d1:decide (1≤x∧x≤n)=true:=decide_eq_true ⟨h2,h3⟩;refine(callsIn_wide (n:=5)).1 ?_;refine callsIn_of_wp Proofs.Tryz.func73 rfl trivial ?_ rfl;simp only[Proofs.Tryz.ntmps73,List.size_toArray,List.length_cons,List.length_nil,Nat.reduceAdd,Nat.reduceSub,Array.replicate_succ,Array.replicate_zero,List.push_toArray,List.append_toArray,List.nil_append,List.cons_append]
 gi_wp2
 refine⟨trivial,(callsIn_wide.2 (has84 g _ n cap x _ h1)).mono ?_⟩;rintro e w' ⟨rfl,rfl⟩;rw[d1]
 gi_wp2
 refine⟨trivial,(callsIn_wide.2 (at43 g gn off n cap x _ h1 h2 h3 h4 h5)).mono ?_⟩;rintro e w' ⟨rfl,rfl⟩;rcases h6 with⟨h6,rfl⟩|⟨gk,ko,capk,h6,h7,h8⟩
 ·gi_wp2
  refine⟨trivial,(callsIn_wide.2 (Proofs.Any.slices_Clone_int_nil Proofs.Tryz.laysC15 0 0 _)).mono ?_⟩;rintro e w' ⟨rfl,rfl⟩
  gi_wp2
  refine bodyPost_ret (results_tmp rfl _ _ _) rfl ?_;exact⟨_,rfl,.inl ⟨rfl,rfl⟩,Below.refl _ _⟩
 ·gi_wp2
  refine⟨trivial,(callsIn_wide.2 (Proofs.Any.slices_Clone_int Proofs.Tryz.laysC15 gk ko l.length capk l _ (Nat.le_refl _) h7 h8)).mono ?_⟩;rintro e w' ⟨v,rfl,hr,hn,hb⟩
  gi_wp2
  refine bodyPost_ret (results_tmp rfl _ _ _) rfl ?_;refine⟨_,rfl,?_,hb⟩;rcases hr.2 with⟨rfl,h0⟩|hr
  ·exact absurd rfl hn
  ·obtain⟨b,cap',cur,rfl,hb0,hc,hl,hm,hsz,ht⟩:=hr;exact .inr ⟨b,cap',cur,_,rfl,hb0,hc,hl,hm,by simpa using ht⟩
def Hot (B:Nat) (W:World) (b:Nat):Prop:=b=B∨(∃o,W.heap[b]?=some o∧o.isCells=false)∨∃v,Boxed W B 28 v∧v.ownBlock=some b
def InB (B:Nat) (W:World):Prop:=∀v c,Boxed W B 28 v→v.ownBlock=some c→c<W.heap.size
structure Kp (n₀ B:Nat) (W W':World):Prop where
 bel:Below n₀ W W'
 cold:∀b,b<W.heap.size→¬Hot B W b→W'.heap[b]?=W.heap[b]?∧¬Hot B W' b
 inb:InB B W→InB B W'
theorem Kp.trans {n₀ B:Nat} {W W' W2:World} (h:Kp n₀ B W W') (k:Kp n₀ B W' W2):Kp n₀ B W W2:=
 ⟨h.bel.trans k.bel,λb hb hn=>by obtain⟨p,q⟩:=h.cold b hb hn;obtain⟨r,t⟩:=k.cold b (Nat.lt_of_lt_of_le hb h.bel.size) q;exact⟨r.trans p,t⟩,λhi=>k.inb (h.inb hi)⟩
theorem boxed_iff {B:Nat} {W W':World} {t:TypeId} {v:Value} (h:W'.heap[B]?=W.heap[B]?):Boxed W' B t v↔Boxed W B t v:=by unfold Boxed;rw[h]
theorem Kp.of_below {n₀ B:Nat} {W W':World} (hb:Below W.heap.size W W') (hn:n₀≤W.heap.size) (hB:B<W.heap.size):Kp n₀ B W W':=by
 have eB:=hb.block B hB;refine⟨hb.mono hn,λb hlt hc=>⟨hb.block b hlt,λhh=>hc ?_⟩,λhi v c hv hc=>Nat.lt_of_lt_of_le (hi v c ((boxed_iff eB).1 hv) hc) hb.size⟩;rcases hh with h|⟨o,h1,h2⟩|⟨v,h1,h2⟩
 ·exact .inl h
 ·exact .inr (.inl ⟨o,by rw[←hb.block b hlt];exact h1,h2⟩)
 ·exact .inr (.inr ⟨v,(boxed_iff eB).1 h1,h2⟩)
theorem Kp.putObj {n₀ B:Nat} {W:World} {l:Nat} {o o':Obj} (hn:n₀≤l) (hBl:B≠l) (hl:W.heap[l]?=some o) (hc:o.isCells=false):Kp n₀ B W (W.putObj l o'):=by
 have hlt:l<W.heap.size:=(Array.getElem?_eq_some_iff.1 hl).1;have eB:(W.putObj l o').heap[B]?=W.heap[B]?:=World.putObj_heap_other hBl;refine⟨(Below.refl n₀ W).grown (grownBy_putObj' W l o') (by omega) (λk e=>by cases e;omega),λb hlt' hh=>?_,λhi v c hv hc=>?_⟩
 ·have hne:b≠l:=λe=>hh (.inr (.inl ⟨o,by rw[e];exact hl,hc⟩));have eb:(W.putObj l o').heap[b]?=W.heap[b]?:=World.putObj_heap_other hne;refine⟨eb,λhh'=>hh ?_⟩;rcases hh' with h|⟨o,h1,h2⟩|⟨v,h1,h2⟩
  ·exact .inl h
  ·exact .inr (.inl ⟨o,by rw[←eb];exact h1,h2⟩)
  ·exact .inr (.inr ⟨v,(boxed_iff eB).1 h1,h2⟩)
 ·have:=hi v c ((boxed_iff eB).1 hv) hc;simpa using this
def PreO (g:Nat) (w:World):Nat→Int→List Int→Prop
 |0,_,_=>False
 |f+1,x,l=>∃(ks:List Int) (m:Int→List Int),KidsM g w x ks∧(∀y∈ks,PreO g w f y (m y))∧l=ks.flatMap λy=>y::m y
theorem pflat_split {ks:List Int} {m:Int→List Int} {i:Nat} (hi:i<ks.length):(ks.take (i+1)).flatMap (λy=>y::m y)=(ks.take i).flatMap (λy=>y::m y)++[ks[i]]++m ks[i]:=by rw[List.take_succ_eq_append_getElem hi,List.flatMap_append];simp
theorem pflat_len {ks:List Int} {m:Int→List Int} (i:Nat):((ks.take i).flatMap λy=>y::m y).length≤(ks.flatMap λy=>y::m y).length:=by
 conv=>rhs;rw[←List.take_append_drop i ks,List.flatMap_append,List.length_append]
 exact Nat.le_add_right _ _
set_option maxRecDepth 100000 in
set_option maxHeartbeats 2000000 in
theorem visit87 {g B lp n₀ N:Nat} {w0:World} (h0:n₀=w0.heap.size) {J Jx:List Int→World→Prop}
  (hJ:∀pre W W',J pre W→Below W.heap.size W W'→J pre W')
  (hY:∀pre y W,J pre W→pre.length<N→YieldAt Fence.wide 0 Proofs.Tryz.prog lp #[.int .i64 y] W λe W'=>(e= .returned (.bool true)∧J (pre++[y]) W'∧Kp n₀ B W W')∨(e= .returned (.bool false)∧Jx (pre++[y]) W')):
  ∀(f:Nat) (x:Int) (l pre:List Int) (W:World),PreO g w0 f x l→Below n₀ w0 W→B<W.heap.size→InB B W→J pre W→pre.length+l.length≤N→
   Calls Proofs.Tryz.prog 139 #[.pointer (some ⟨g,0,none⟩),.int .i64 x,.func (.yield lp) #[] #[]] W λe W'=>(e= .returned (.bool true)∧J (pre++l) W'∧Kp n₀ B W W')∨(e= .returned (.bool false)∧∃p,Jx p W')
 |0,_,_,_,_,hp,_,_,_,_,_=>hp.elim
 |f+1,x,l,pre,W,hp,hb,hB,hin,hj,hN=>by
  obtain⟨ks,m,hk,hm,rfl⟩:=hp;have ih:=visit87 (g:=g) (B:=B) (lp:=lp) (n₀:=n₀) (N:=N) (w0:=w0) h0 hJ hY f;subst h0;have hk1:=KidsM.below hb hk;refine(callsIn_wide (n:=5)).1 ?_;refine callsIn_of_wp Proofs.Tryz.func139 rfl trivial ?_ rfl;simp only[Proofs.Tryz.ntmps139,List.size_toArray,List.length_cons,List.length_nil,Nat.reduceAdd,Nat.reduceSub,Array.replicate_succ,Array.replicate_zero,List.push_toArray,List.append_toArray,List.nil_append,List.cons_append]
  gi_wp2
  refine⟨trivial,(callsIn_wide.2 (kids84 hk1)).mono ?_⟩;rintro e W1 ⟨v,rfl,hs,b1⟩;have k1:Kp w0.heap.size B W W1:=Kp.of_below b1 hb.size hB;have j1:=hJ _ _ _ hj b1;have hv:∃ao capv,v= .slice ao ks.length capv∧ks.length≤9223372036854775807∧∀i (hi:i<ks.length) (wr:World),Kp w0.heap.size B W1 wr→∃b,ao=some ⟨b,0,none⟩∧wr.cell? ⟨b,i,none⟩=some (.int .i64 ks[i]):=by
   rcases hs with⟨rfl,rfl⟩|⟨b,cap,cur,t,rfl,hlo,hc,hl,hcm,ht⟩
   ·exact⟨none,0,rfl,by simp,λi hi=>by simp at hi⟩
   ·have hbl:b<W1.heap.size:=(Array.getElem?_eq_some_iff.1 hc).1;have hnh:¬Hot B W1 b:=by
     rintro(h|⟨o,h1,h2⟩|⟨v,h1,h2⟩)
     ·omega
     ·rw[hc] at h1;cases h1;cases h2
     ·have:=hin v b ((boxed_iff (b1.block B hB)).1 h1) h2;omega
    refine⟨some ⟨b,0,none⟩,cap,rfl,Nat.le_trans hl (Nat.le_trans hcm (by decide)),λi hi wr hk=>⟨b,rfl,?_⟩⟩;obtain⟨e1,_⟩:=hk.cold b hbl hnh;exact pcell_take (e1.trans hc) ht hi
  obtain⟨ao,capv,rfl,hmx,hcell⟩:=hv;clear hs hk hk1
  gi_wp2
  gi_loopg [13] ks.length (λk v wr=>∃i,i≤ks.length∧k=ks.length-i∧v= .int .i64 (i:Nat)∧J (pre++(ks.take i).flatMap (λy=>y::m y)) wr∧Kp w0.heap.size B W1 wr)
  case atStart=>exact⟨0,Nat.zero_le _,rfl,rfl,by simpa using j1,⟨Below.refl _ _,λb _ h=>⟨rfl,h⟩,id⟩⟩
  case round=>
   obtain⟨i,hi,rfl,rfl,ji,ki⟩:=hrel;by_cases hlt:i<ks.length
   ·obtain⟨b,rfl,hci⟩:=hcell i hlt wr ki;have hlti:(i:Int)<(ks.length:Int):=by exact_mod_cast hlt
    have hwi:=wrap_succ' i _ hlt hmx;have hl1:=pflat_len (ks:=ks) (m:=m) (i+1);rw[pflat_split hlt] at hl1;simp only[List.length_append,List.length_cons,List.length_nil] at hl1;obtain⟨fn,tmps,assign,body,hy,hR⟩:=hY (pre++(ks.take i).flatMap λy=>y::m y) ks[i] wr ji (by rw[List.length_append];omega);have hR2:∀k,RoundIn Fence.wide k Proofs.Tryz.prog lp fn tmps assign body wr _:=λk=>⟨hR.1,λc cs _=>hR.2 c cs (room_wide _)⟩
    gi_wp2
    refine(hR2 _).mono ?_;rintro e W3 (⟨rfl,j3,k3⟩|⟨rfl,hx3⟩)
    ·have kk:=k1.trans (ki.trans k3);have hcc:=ih ks[i] (m ks[i]) (pre++(ks.take i).flatMap (λy=>y::m y)++[ks[i]]) W3 (hm _ (List.getElem_mem hlt)) (hb.trans kk.bel) (Nat.lt_of_lt_of_le hB kk.bel.size) (kk.inb hin) j3 (by simp only[List.length_append,List.length_cons,List.length_nil];omega)
     gi_wp2
     refine⟨trivial,(callsIn_wide.2 hcc).mono ?_⟩;rintro e W4 (⟨rfl,j4,k4⟩|⟨rfl,hx4⟩)
     ·gi_wp2
      gi_roundg (ks.length-(i+1))
      case measure=>exact Nat.sub_lt_sub_left hlt (Nat.lt_succ_self i)
      case rel=>
       refine⟨i+1,hlt,rfl,?_,?_,ki.trans (k3.trans k4)⟩
       ·first|rfl|exact congrArg (Value.int .i64) hwi
       ·rw[pflat_split hlt];simpa only[List.append_assoc] using j4
     ·gi_wp2
      refine bodyPost_ret (results_tmp rfl _ _ _) rfl ?_;exact .inr ⟨rfl,hx4⟩
    ·gi_wp2
     refine⟨trivial,?_⟩
     gi_wp2
     refine bodyPost_ret (results_tmp rfl _ _ _) rfl ?_;exact .inr ⟨rfl,_,hx3⟩
   ·obtain rfl:i=ks.length:=Nat.le_antisymm hi (Nat.le_of_not_lt hlt);rw[List.take_length] at ji
    gi_wp2
    refine bodyPost_ret (results_tmp rfl _ _ _) rfl ?_;exact .inl ⟨rfl,ji,k1.trans ki⟩
theorem below40 (g:Nat) (x:Int) (w:World):
  Calls Proofs.Tryz.prog 111 #[.pointer (some ⟨g,0,none⟩),.int .i64 x] w λe w'=>e= .returned (.func (.func 138) #[] #[.pointer (some ⟨w.heap.size,0,none⟩),.pointer (some ⟨w.heap.size+1,0,none⟩)])∧
   w'=(w.alloc (.cells #[.pointer (some ⟨g,0,none⟩)] 25)).alloc (.cells #[.int .i64 x] 3):=by
 have hmf:∀(fn:Fn) (first cap:Array Value) (w:World),(Instr.makeFunc fn first cap).run Proofs.Tryz.prog w= .ok (.func fn first cap) w:=λ_ _ _ _=>rfl
 go_enter Proofs.Tryz.func111,Proofs.Tryz.ntmps111
 go_wp2
 go_ret
 exact⟨rfl,rfl⟩
theorem below_grown {W W':World} (hb:Below W.heap.size W W'):W.grownBy W' none:=⟨hb.os,hb.tape,hb.output,hb.size,λk hk _=>hb.block k hk⟩
theorem setCell_row {W:World} {b:Nat} {p:Addr} {v:Value} (h:b≠p.block):(W.setCell p v).heap[b]?=W.heap[b]?:=Below.heap_setCell _ _ _ b h
def cPost (Kp:World→World→Prop) (I:List Int→World→Prop) (xs:List Int) (W:World):Exit→Act→World→Prop
 | .normal,_,W'=>KeepsOthers W W'∧Kp W W'∧I xs W'
 |_,_,_=>False
theorem wpIn_range_c {P:Program} {n gf N:Nat} {lb:Array Value} {g:Operand} {ps:Array Tmp} {assign body:Code} {Q:Exit→Act→World→Prop} {a:Act} {w:World} (l:List Int) (Kp:World→World→Prop)
  (hg:a.eval g= .func (.func gf) #[] lb) (eg:∀args w,(callFunc gf args).run P w= .ok (.enter gf args) w)
  (hseq:∀(lp:Nat) (J:List Int→World→Prop) (W:World),Below w.heap.size w W→(∀pre A A',J pre A→Below A.heap.size A A'→J pre A')→
   (∀pre y W1,J pre W1→pre.length<N→YieldAt Fence.wide (n-1 -1) P lp #[.int .i64 y] W1 λe W'=>e= .returned (.bool true)∧J (pre++[y]) W'∧Kp W1 W')→J [] W→
   CallsIn Fence.wide (n-1) P gf (#[.func (.yield lp) #[] #[]]++lb) W λe W'=>(∃v,e= .returned v)∧J l W')
  (hKt:∀{A B C:World},Kp A B→Kp B C→Kp A C) (hKb:∀(W:World) (r:Nat) (o o':Obj),w.heap.size≤r→W.heap[r]?=some o→o.isCells=false→Kp W (W.putObj r o'))
  (hps:ps.size=1) (I:List Int→World→Prop) (hI:∀pre A B row,I pre A→A.grownBy B row→(∀r,row=some r→w.heap.size≤r∧∃o,A.heap[r]?=some o∧o.isCells=false)→I pre B) (h0:I [] w) (a₁:Int→Act)
  (hassign:∀(lp:Nat) (x:Int) (W:World) (K:Act→World→Prop),K (a₁ x) W→
   assign.wpIn (Fence.wide.inRound lp) (n-1 -1) P (Exit.then K (λ_ _ _=>False)) {tmps:=(ps.zip #[.int .i64 x]).foldl (λt (p,v)=>t.setIfInBounds p v) a.tmps,defers:=[]} W)
  (hbody:∀(lp:Nat) (pre:List Int) (x:Int) (W:World),I pre W→pre.length<N→body.wpIn (Fence.wide.inRound lp) (n-1 -1) P (cPost Kp I (pre++[x]) W) (a₁ x) W)
  (hdone:∀(D:Nat) (W:World),I l W→W.heap[D]?=some (.deferred (some []))→w.heap.size≤D→Q .normal {a with defers:={target:= .collected D,args:=#[]}::a.defers} W):
  (Code.rangeFunc g ps assign body).wpIn Fence.wide n P Q a w:=by
 refine wpIn_rangeFunc ?_;intro fn hfn;have hro:Fence.wide.round=none:=rfl;rw[hro];obtain⟨rec,hrec⟩:∃rec:LoopState→Option Code→Loop,rec=λst pe=>{state:=st,pending:=pe,fn,tmps:=a.tmps,params:=ps,assign,body,defers:=w.heap.size}:=⟨_,rfl⟩;obtain⟨W1,hW1⟩:∃W1,(w.alloc (.deferred (some []))).alloc (.loop (rec .ready none))=W1:=⟨_,rfl⟩;have hL1:W1.heap[w.heap.size+1]?=some (.loop (rec .ready none)):=by rw[←hW1];have:=World.alloc_heap_new (w.alloc (.deferred (some []))) (.loop (rec .ready none));rwa [World.size_alloc] at this
 have hK1:W1.heap[w.heap.size]?=some (.deferred (some [])):=by rw[←hW1];exact(Below.heap_alloc _ _ _ (by simp)).trans (World.alloc_heap_new w _)
 have hI1:I [] W1:=by rw[←hW1];exact hI _ _ _ none (hI _ _ _ none h0 (World.grownBy_alloc _ _ none) nofun) (World.grownBy_alloc _ _ none) nofun
 have hb1:Below w.heap.size w W1:=by rw[←hW1];exact(((Below.refl _ w).alloc (Nat.le_refl _) _).alloc (by simp) _)
 refine⟨w.heap.size+1,[{target:= .collected w.heap.size,args:=#[]}],W1,{target:= .fn (.func gf) lb,args:=#[.func (.yield (w.heap.size+1)) #[] #[]]},W1,gf,
  #[.func (.yield (w.heap.size+1)) #[] #[]]++lb,W1,?_,?_,?_,?_,nofun,?_⟩
 ·rw[←hW1,hrec];exact run_enterLoop_outer _ _ _ _ _
 ·simp only[resolve,hg];simp[go_sem]
 ·intro f' hf';trivial
 ·simp[invoke,go_sem,eg]
 ·refine(hseq (w.heap.size+1)
   (λpre W=>I pre W∧W.heap[w.heap.size+1]?=some (.loop (rec .ready none))∧W.heap[w.heap.size]?=some (.deferred (some [])))
   W1 hb1
   (λpre A B hs hb=>⟨hI _ A B none hs.1 (below_grown hb) nofun,(hb.block _ (Array.getElem?_eq_some_iff.1 hs.2.1).1).trans hs.2.1,(hb.block _ (Array.getElem?_eq_some_iff.1 hs.2.2).1).trans hs.2.2⟩)
   ?_ ⟨hI1,hL1,hK1⟩).mono ?_
  ·rintro pre x W ⟨hi,hl,hk⟩ hlen;have hlt:w.heap.size+1<W.heap.size:=(Array.getElem?_eq_some_iff.1 hl).1;have hy:=run_yield (P:=P) (args:=#[.int .i64 x]) hl (by rw[hrec];exact hps.symm);rw[hrec] at hy;refine⟨fn,_,assign,body,hy,roundIn_of_wpIn hfn (hassign _ x W _ ⟨_,run_beginRound hl (by rw[hrec]),?_⟩)⟩;have hl2:(W.putObj (w.heap.size+1) (.loop {rec .ready none with state:= .busy})).heap[w.heap.size+1]?=some (.loop {rec .ready none with state:= .busy}):=World.putObj_heap_same hlt;have hk2:(W.putObj (w.heap.size+1) (.loop {rec .ready none with state:= .busy})).heap[w.heap.size]?=some (.deferred (some [])):=(World.putObj_heap_other (by omega)).trans hk;have hw2:Kp W (W.putObj (w.heap.size+1) (.loop {rec .ready none with state:= .busy})):=hKb _ _ _ _ (by omega) hl rfl;refine wpIn_mono (hbody _ pre x _ (hI _ _ _ _ hi (grownBy_putObj' W _ _) (λr e=>by cases e;exact⟨by omega,_,hl,rfl⟩)) hlen) ?_;rintro e a3 W3 hp
   cases e with
   |normal=>obtain⟨hk3,hkp3,hi3⟩:=hp;have hl3:=hk3.same _ _ hl2 rfl;have hr:=run_endRound (P:=P) none hl3;rw[hrec] at hr hl3;have hl4:(W3.putObj (w.heap.size+1) (.loop (rec .ready none))).heap[w.heap.size+1]?=some (.loop (rec .ready none)):=World.putObj_heap_same (Array.getElem?_eq_some_iff.1 hl3).1;have hk4:(W3.putObj (w.heap.size+1) (.loop (rec .ready none))).heap[w.heap.size]?=some (.deferred (some [])):=(World.putObj_heap_other (by omega)).trans (hk3.same _ _ hk2 rfl);rw[hrec] at hl4 hk4;exact⟨_,_,hr,rfl,⟨hI _ _ _ _ hi3 (grownBy_putObj' W3 _ _) (λr e=>by cases e;exact⟨by omega,_,hl3,rfl⟩),by rw[hrec];exact hl4,hk4⟩,hKt (hKt hw2 hkp3) (hKb _ _ _ _ (by omega) hl3 rfl)⟩
   |ret=>exact hp.elim
   |exit id=>exact hp.elim
   |goto t=>exact hp.elim
   |panic ch=>exact hp.elim
   |outgrown=>exact hp.elim
  ·rintro e W2 ⟨⟨v,rfl⟩,hi,hl,hk⟩;exact⟨none,_,by have:=run_endLoop (P:=P) hl (by rw[hrec];simp);rw[hrec] at this;exact this,hdone _ _ (hI _ _ _ _ hi (grownBy_putObj' W2 _ _) (λr e=>by cases e;exact⟨by omega,_,hl,rfl⟩)) ((World.putObj_heap_other (by omega)).trans hk) (Nat.le_refl _)⟩
set_option maxRecDepth 100000 in
set_option maxHeartbeats 2000000 in
theorem seq86 {g B n₀ N f n:Nat} {x:Int} {l:List Int} {w0 w:World} (h0:n₀=w0.heap.size) (hp:PreO g w0 f x l) (hN:l.length≤N) (hB:B<w.heap.size) (hb:Below n₀ w0 w) (hbx:Boxed w B 28 (.slice none 0 0)) {p q:Nat}
  (h1:w.cell? ⟨p,0,none⟩=some (.pointer (some ⟨g,0,none⟩))) (h2:w.cell? ⟨q,0,none⟩=some (.int .i64 x))
  (lp:Nat) (J:List Int→World→Prop) (W:World) (hW:Below w.heap.size w W) (hJ:∀pre A A',J pre A→Below A.heap.size A A'→J pre A')
  (hY:∀pre y W1,J pre W1→pre.length<N→YieldAt Fence.wide (n-1) Proofs.Tryz.prog lp #[.int .i64 y] W1 λe W'=>e= .returned (.bool true)∧J (pre++[y]) W'∧Kp n₀ B W1 W') (hj:J [] W):
  CallsIn Fence.wide n Proofs.Tryz.prog 138 (#[.func (.yield lp) #[] #[]]++#[.pointer (some ⟨p,0,none⟩),.pointer (some ⟨q,0,none⟩)]) W λe W'=>(∃v,e= .returned v)∧J l W':=by
 have hv:=visit87 (g:=g) (B:=B) (lp:=lp) (n₀:=n₀) (N:=N) (w0:=w0) (J:=J) (Jx:=λ_ _=>False) h0 hJ (λpre y A hjA hlen=>by
   obtain⟨fn,tmps,assign,body,hy,hR⟩:=yield_any (k:=0) (hY pre y A hjA hlen);exact⟨fn,tmps,assign,body,hy,hR.mono λe W' h=> .inl h⟩) f x l [] W hp (hb.trans (hW.mono (by rw[h0];exact(h0▸hb).size))) (Nat.lt_of_lt_of_le hB hW.size)
  (λv c hv hc=>by
   have hv':=(boxed_iff (hW.block B hB)).1 hv;unfold Boxed at hv' hbx;rw[hbx] at hv'
   cases hv'
   cases hc) hj (by simpa using hN)
 have c1:W.cell? ⟨p,0,none⟩=some (.pointer (some ⟨g,0,none⟩)):=by rw[cell?_of_heap (hW.block _ (lt_of_cell h1))];exact h1
 have c2:W.cell? ⟨q,0,none⟩=some (.int .i64 x):=by rw[cell?_of_heap (hW.block _ (lt_of_cell h2))];exact h2
 refine callsIn_of_wp Proofs.Tryz.func138 rfl trivial ?_ rfl;simp only[Proofs.Tryz.ntmps138,List.size_toArray,List.length_cons,List.length_nil,Nat.reduceAdd,Nat.reduceSub,Array.replicate_succ,Array.replicate_zero,List.push_toArray,List.append_toArray,List.nil_append,List.cons_append]
 gi_wp2
 refine⟨trivial,nofun,(callsIn_wide.2 hv).mono ?_⟩;rintro e W4 (⟨rfl,j4,k4⟩|⟨rfl,_,hx4⟩)
 ·gi_wp2
  go_end0
  exact⟨⟨_,rfl⟩,j4⟩
 ·exact hx4.elim
theorem Own_boxed {n₀ B:Nat} {s:List Int} {A A':World} {row:Option Nat} (hg:A.grownBy A' row) (hr:∀r,row=some r→∃o,A.heap[r]?=some o∧o.isCells=false) (h:∃v,Boxed A B 28 v∧A.ownsRow n₀ 3 1 v s.length (s.map (Value.int .i64))∧InB B A):
  ∃v,Boxed A' B 28 v∧A'.ownsRow n₀ 3 1 v s.length (s.map (Value.int .i64))∧InB B A':=by
 obtain⟨v,h1,h2,h3⟩:=h;obtain⟨v',k1,k2,_⟩:=holdsRow_own n₀ B 28 3 1 (λs:List Int=>s.length) (λs=>s.map (Value.int .i64)) (λ_ _=>True) s A A' row ⟨v,h1,h2,trivial⟩ hg hr;refine⟨v',k1,k2,λu c hu hc=>Nat.lt_of_lt_of_le ?_ hg.size⟩;have e:A'.heap[B]?=A.heap[B]?:=hg.block B h1.lt λe=>by
  obtain⟨o,ho,hc⟩:=hr B e.symm;rw[show A.heap[B]?=_ from h1] at ho
  cases ho;cases hc
 exact h3 u c ((boxed_iff e).1 hu) hc
set_option maxRecDepth 100000 in
set_option maxHeartbeats 4000000 in
theorem norm559 {g f:Nat} {x:Int} {l:List Int} {w:World} {R1 R2:World→Prop} {S:World→World→Nat→World→Prop} (hl:l.length≤1000000000)
  (hcheck:Calls Proofs.Tryz.prog 27 #[.pointer (some ⟨g,0,none⟩),.int .i64 (-1),.slice (some ⟨w.heap.size,0,none⟩) 1 1] (w.alloc (.cells #[.int .i64 x] 3)) λe W=>e= .returned (.int .i64 0)∧R1 W)
  (hjoin:∀W,R1 W→Calls Proofs.Tryz.prog 110 #[.pointer (some ⟨g,0,none⟩),.int .i64 x] W λe W'=>(∃v,e= .returned v)∧R2 W')
  (hpre:∀W,R2 W→PreO g W f x l)
  (hS0:∀W W5,R2 W→Below W.heap.size W W5→S W W5 0 W5)
  (hSk:∀W W5 i W' b,S W W5 i W'→W.heap.size≤b→b<W5.heap.size→W'.heap[b]?=W5.heap[b]?)
  (hSj:∀W W5 i W' (hi:i<l.length),S W W5 i W'→Calls Proofs.Tryz.prog 110 #[.pointer (some ⟨g,0,none⟩),.int .i64 l[i]] W' λe W2=>(∃v,e= .returned v)∧S W W5 (i+1) W2):
  Calls Proofs.Tryz.prog 64 #[.pointer (some ⟨g,0,none⟩),.int .i64 x] w λe w'=>e= .returned (.int .i64 0)∧
   ∃W W5 W6 D,R2 W∧S W W5 l.length W6∧W6.heap[D]?=some (.deferred (some []))∧W.heap.size≤D∧w'=W6.putObj D (.deferred none):=by
 refine(callsIn_wide (n:=5)).1 ?_;refine callsIn_of_wp_marks Proofs.Tryz.func64 rfl trivial ?_;simp only[Proofs.Tryz.ntmps64,List.size_toArray,List.length_cons,List.length_nil,Nat.reduceAdd,Nat.reduceSub,Array.replicate_succ,Array.replicate_zero,List.push_toArray,List.append_toArray,List.nil_append,List.cons_append]
 gi_wp2
 refine⟨trivial,(callsIn_wide.2 hcheck).mono ?_⟩;rintro e W1 ⟨rfl,r1⟩
 gi_wp2
 refine⟨trivial,(callsIn_wide.2 (hjoin _ r1)).mono ?_⟩;rintro e W2 ⟨⟨v,rfl⟩,r2⟩;have hp:=hpre _ r2;have nB:=cell_new' W2 (.slice none 0 0) 28;have bB:=Boxed.new W2 28 (.slice none 0 0)
 gi_wp2
 refine⟨trivial,(callsIn_wide.2 (below40 g x _)).mono ?_⟩;rintro e w' ⟨rfl,rfl⟩
 gi_wp2
 obtain⟨i0,hi0,hz0,hz1,hz2⟩:=info_parts Proofs.Tryz.laysC15.i3;have hsz4:((((W2.alloc (.cells #[.slice none 0 0] 28)).alloc (.cells #[.pointer (some ⟨g,0,none⟩)] 25)).alloc (.cells #[.int .i64 x] 3))).heap.size=W2.heap.size+1+1+1:=by simp
 refine wpIn_range_c (gf:=138) (N:=l.length) (lb:=#[.pointer (some ⟨W2.heap.size+1,0,none⟩),.pointer (some ⟨W2.heap.size+1+1,0,none⟩)]) l (Kp W2.heap.size W2.heap.size) rfl (Go.Proofs.enters_of Proofs.Tryz.func138 (by kernel_rfl) rfl)
  ?hseq (λh1 h2=>h1.trans h2) ?hKb rfl
  (λs W=>Below W2.heap.size W2 W∧∃v,Boxed W W2.heap.size 28 v∧W.ownsRow W2.heap.size 3 1 v s.length (s.map (Value.int .i64))∧InB W2.heap.size W) ?hI ?h0
  (λy=>{tmps:=#[.pointer (some ⟨g,0,none⟩),.int .i64 x,undef,undef,.int .i64 0,.int .i64 0,.pointer (some ⟨W2.heap.size,0,none⟩),.int .i64 y,undef,undef,.pointer (some ⟨g,0,none⟩),.int .i64 x,.slice (some ⟨w.heap.size,0,none⟩) 1 1,.int .i64 0,.int .i64 0,.bool false,undef,.pointer (some ⟨g,0,none⟩),.int .i64 x,v,.pointer (some ⟨g,0,none⟩),.int .i64 x,.func (.func 138) #[] #[.pointer (some ⟨W2.heap.size+1,0,none⟩),.pointer (some ⟨W2.heap.size+1+1,0,none⟩)],.int .i64 y,undef,undef,undef,undef,undef,undef,undef,undef,undef,undef,undef,undef,undef,undef],defers:=[]})
  ?hassign ?hbody ?hdone
 case hseq=>
  intro lp J W hW hJ hY hj;refine seq86 (n₀:=W2.heap.size) (B:=W2.heap.size) (N:=l.length) (f:=f) (x:=x) (w0:=W2) (n:=4) rfl hp (Nat.le_refl _) (by rw[hsz4];omega) ((((Below.refl _ W2).alloc (Nat.le_refl _) _).alloc (by simp) _).alloc (by simp;omega) _) ((bB.alloc _).alloc _) ?_ ?_ lp J W hW hJ hY hj
  ·exact cell_alloc' _ (by have:=cell_new' (W2.alloc (.cells #[.slice none 0 0] 28)) (.pointer (some ⟨g,0,none⟩)) 25;simpa only[World.size_alloc] using this.1)
  ·have:=cell_new' ((W2.alloc (.cells #[.slice none 0 0] 28)).alloc (.cells #[.pointer (some ⟨g,0,none⟩)] 25)) (.int .i64 x) 3;simpa only[World.size_alloc] using this.1
 case hKb=>intro W r o o' hr ho hc;rw[hsz4] at hr;exact Kp.putObj (by omega) (by omega) ho hc
 case hI=>rintro s A A' row ⟨h1,h2⟩ hg hr;exact⟨h1.grown hg (h1.size) (λk e=>by have:=(hr k e).1;rw[hsz4] at this;omega),Own_boxed hg (λr e=>(hr r e).2) h2⟩
 case h0=>
  refine⟨(((Below.refl _ W2).alloc (Nat.le_refl _) _).alloc (by simp) _).alloc (by simp;omega) _,_,(bB.alloc _).alloc _,⟨rfl,.inl ⟨rfl,rfl⟩⟩,λu c hu hc=>?_⟩;have hb:=(bB.alloc (.cells #[.pointer (some ⟨g,0,none⟩)] 25)).alloc (.cells #[.int .i64 x] 3);unfold Boxed at hu hb;rw[hb] at hu
  cases hu;cases hc
 case hassign=>
  intro lp y W K hK;have hsem:=Oper.semAt_some lp
  gi_wp2
  exact hK
 case hbody=>
  rintro lp pre y W ⟨hb,u,hu,hr,hin⟩ hlen;have hsem:=Oper.semAt_some lp;have cB:=hu.cell;have hWn:W2.heap.size≤W.heap.size:=hb.size
  gi_wp2_with (gi_at_builtin;refine wpListIn_append_own_at _ rfl _ _ 28 rfl W2.heap.size 3 i0 (.int .i64 0) 1 8 Proofs.Tryz.laysC15.t22 hi0 hz0 hz1 hz2 rfl (by decide) _ _ _ rfl (hr.alloc _) ⟨W.heap.size,0,none⟩ 1 1 [.int .i64 y] rfl rfl ?qc1 ?qc2 ?qc3 ?qc4 ?qc5 ?qc6)
  case qc1=>
   intro j z hj
   match j,hj with
   |0,hj=>
    cases hj
    exact(cell_new' W (.int .i64 y) 3).1
   |j+1,hj=>simp at hj
  case qc2=>intro z hz;rw[List.mem_singleton.1 hz];rfl
  case qc3=>unfold maxLen;omega
  case qc4=>omega
  case qc5=>simp;omega
  intro v' w1 hown hgrow hnil hat;obtain⟨g',cap',rfl⟩:=ownsRow_succ hown;obtain⟨hv1,hv2,hr2,hko,hbel⟩:=Boxed.appended hu (by decide) hr hWn (Nat.le_refl _) hown hgrow;have cB1:=hv1.cell;have fB1:=hv1.frozen
  gi_wp2
  have hin2:InB W2.heap.size (w1.setCell ⟨W2.heap.size,0,none⟩ (.slice (some ⟨g',0,none⟩) (pre.length+1) cap')):=λu' c hu' hc=>by
   unfold Boxed at hu' hv2;rw[hv2] at hu'
   cases hu'
   exact(hr2.lt c hc).2
  refine⟨hko,⟨hbel,λb hlt hh=>?_,λ_=>hin2⟩,hb.trans hbel,_,hv2,by simpa using hr2,hin2⟩;have hne:b≠W2.heap.size:=λe=>hh (.inl e);have hnr:u.ownBlock≠some b:=λe=>hh (.inr (.inr ⟨u,hu,e⟩));have e1:(w1.setCell ⟨W2.heap.size,0,none⟩ (.slice (some ⟨g',0,none⟩) (pre.length+1) cap')).heap[b]?=W.heap[b]?:=by rw[setCell_row hne,hgrow.block b (by simp;omega) (λe=>hnr e.symm)];exact Below.heap_alloc _ _ _ hlt
  refine⟨e1,?_⟩;rintro(h|⟨o,h1,h2⟩|⟨z,h1,h2⟩)
  ·exact hne h
  ·exact hh (.inr (.inl ⟨o,by rw[←e1];exact h1,h2⟩))
  ·unfold Boxed at h1 hv2;rw[hv2] at h1
   cases h1
   rcases hat with hat|hat
   ·exact hnr (hat.symm.trans h2)
   ·rw[h2] at hat;have:=Option.some.inj hat;have e2:(W.alloc (.cells #[.int .i64 y] 3)).heap.size=W.heap.size+1:=World.size_alloc _ _;omega
 case hdone=>
  rintro D W ⟨hb,u,hu,hr,hin⟩ hK hD;have cB:=hu.cell;rw[hsz4] at hD;have hDl:D<W.heap.size:=(Array.getElem?_eq_some_iff.1 hK).1;have hv:∃ao capv,u= .slice ao l.length capv∧∀i (hi:i<l.length) (j:Nat) (wr:World),S W2 W j wr→∃r,ao=some ⟨r,0,none⟩∧wr.cell? ⟨r,i,none⟩=some (.int .i64 l[i]):=by
   obtain⟨hr1,(⟨rfl,h0⟩|⟨r,cap,cur,rfl,hlo,hc,hl',hcm,hsz,ht⟩)⟩:=hr
   ·obtain rfl:=List.eq_nil_of_length_eq_zero h0;exact⟨none,0,rfl,λi hi=>by simp at hi⟩
   ·refine⟨_,cap,rfl,λi hi j wr hS=>⟨r,rfl,?_⟩⟩;have e1:=hSk _ _ _ _ r hS hlo (Array.getElem?_eq_some_iff.1 hc).1;exact pcell_take (e1.trans hc) (by simpa using ht) hi
  obtain⟨ao,capv,rfl,hcell⟩:=hv;have hs0:=hS0 _ _ r2 hb;have hmx:l.length≤9223372036854775807:=by omega
  clear hr hin hi0 hz0 hz1 hz2 hp hjoin hcheck hpre nB bB
  gi_wp2
  gi_loopg [30] l.length (λk v wr=>∃i,i≤l.length∧k=l.length-i∧v= .int .i64 (i:Nat)∧S W2 W i wr)
  case atStart=>exact⟨0,Nat.zero_le _,rfl,rfl,hs0⟩
  case round=>
   obtain⟨i,hi,rfl,rfl,si⟩:=hrel;by_cases hlt:i<l.length
   ·obtain⟨r,rfl,hci⟩:=hcell i hlt i wr si;have hlti:(i:Int)<(l.length:Int):=by exact_mod_cast hlt
    have hwi:=wrap_succ' i _ hlt hmx;have hj:=hSj _ _ _ _ hlt si
    gi_wp2
    refine⟨trivial,(callsIn_wide.2 hj).mono ?_⟩;rintro e W7 ⟨⟨v,rfl⟩,s7⟩
    gi_wp2
    gi_roundg (l.length-(i+1))
    case measure=>exact Nat.sub_lt_sub_left hlt (Nat.lt_succ_self i)
    case rel=>
     refine⟨i+1,hlt,rfl,?_,s7⟩
     first|rfl|exact congrArg (Value.int .i64) hwi
   ·obtain rfl:i=l.length:=Nat.le_antisymm hi (Nat.le_of_not_lt hlt);have hK':wr.heap[D]?=some (.deferred (some [])):=(hSk _ _ _ _ D si (by omega) hDl).trans hK
    gi_wp2
    refine⟨nofun,.inl ⟨_,_,rfl,run_takeDeferred hK',?_⟩⟩;refine⟨.int .i64 0,?_,rfl,W2,W,wr,D,r2,si,hK',by omega,rfl⟩;simp[results,Proofs.Tryz.f64,go_sem]
end Go.Am
end
section
namespace Go.Am
open Go Go.RowKit Go.Shelf
section
variable {γ:Gh} {h:AHeap} {w:World}
theorem intsFrom_get {ks:List AVal}:∀{m o:Nat} {l:List Int},intsFrom ks o m=some l→l.length=m∧∀j,j<m→ks[o+j]?=some (.int .i64 (l.getD j 0))
 |0,o,l,e=>by cases e;exact⟨rfl,λj hj=>by omega⟩
 |m+1,o,l,e=>by
  unfold intsFrom at e;split at e
  ·rename_i y hy;obtain⟨l',e',rfl⟩:=Option.map_eq_some_iff.1 e;obtain⟨p,q⟩:=intsFrom_get e';refine⟨by simp[p],λj hj=>?_⟩
   cases j with
   |zero=>exact hy
   |succ j=>rw[show o+(j+1)=o+1+j by omega];exact q j (by omega)
  ·cases e
theorem kidsOf_mem (hi:Inv γ h w) {id g:Nat} (hm:γ.mu id=some g) {x:Int} {l:List Int} (e:kidsOf h id x=some l):KidsM g w x l:=by
 unfold kidsOf at e;split at e
 ·rename_i nid off n l0 hc;split at e
  ·rename_i cs hcs;split at e
   ·rename_i hx;obtain⟨_,y,hy,gn,cap,hmn,rfl,q1,⟨q2,q3⟩,q4⟩:=hi.cell1 hc hm (j:=0) rfl;split at e
    ·rename_i h2
     cases e
     obtain⟨u,hu,_,hr⟩:=cells_mem hi hcs hmn h2
     cases hr
     exact⟨gn,off,n,cap,hy,hx.1,hx.2,q1,q3,.inl ⟨hu,rfl⟩⟩
    ·rename_i kid ko m h2;obtain⟨u,hu,_,hr⟩:=cells_mem hi hcs hmn h2;obtain⟨gk,capk,hmk,rfl,r1,⟨r2,r3⟩,r4⟩:=hr;split at e
     ·rename_i ks hks;split at e
      ·rename_i hmm;obtain⟨hl,hg⟩:=intsFrom_get e;refine⟨gn,off,n,cap,hy,hx.1,hx.2,q1,q3,.inr ⟨gk,ko,capk,by rw[hl];exact hu,by omega,λj hj=>?_⟩⟩;obtain⟨u2,hu2,_,hr2⟩:=cells_mem hi hks hmk (hg j (by omega))
       cases hr2
       exact hu2
      ·cases e
     ·cases e
    ·cases e
   ·cases e
  ·cases e
 ·cases e
theorem preL_mem {f:Int→Option (List Int)}:∀{ks l:List Int},preL f ks=some l→(∀y∈ks,(f y).isSome=true)∧l=ks.flatMap λy=>y::(f y).getD []
 |[],l,e=>by cases e;exact⟨λ_ h=>(by cases h),rfl⟩
 |y::ks,l,e=>by
  unfold preL at e;split at e
  ·rename_i a b h1 h2
   cases e
   obtain⟨p,q⟩:=preL_mem h2;refine⟨λz hz=>?_,by rw[List.flatMap_cons,←q,h1];rfl⟩;rcases List.mem_cons.1 hz with rfl|hz
   ·rw[h1];rfl
   ·exact p z hz
  ·cases e
theorem preOf_mem (hi:Inv γ h w) {id g:Nat} (hm:γ.mu id=some g):∀{f:Nat} {x:Int} {l:List Int},preOf h id f x=some l→PreO g w f x l
 |0,x,l,e=>by cases e
 |f+1,x,l,e=>by unfold preOf at e;obtain⟨ks,h1,h2⟩:=Option.bind_eq_some_iff.1 e;obtain⟨p,q⟩:=preL_mem h2;refine⟨ks,λy=>(preOf h id f y).getD [],kidsOf_mem hi hm h1,λy hy=>?_,q⟩;obtain⟨l',hl'⟩:=Option.isSome_iff_exists.1 (p y hy);show PreO g w f y ((preOf h id f y).getD []);rw[hl'];exact preOf_mem hi hm hl'
theorem joins_con {n:Nat} {a:AVal} {r:AVal} {h':AHeap}:∀{l:List Int} {h:AHeap},IT.step (afun cx) (IT.run (afun cx) n) (joinsT 110 a (.ret .ret [.int .i64 0]) (l.map λy=>[.int .i64 y])) h=some (.ret,[r],h')→
  r= .int .i64 0∧∃f:Nat→AHeap,f 0=h∧f l.length=h'∧∀i (hi:i<l.length),∃r1,IT.run (afun cx) n (afun cx 110 [a,.int .i64 l[i]]) (f i)=some (.ret,[r1],f (i+1))
 |[],h,e=>by simp only[List.map_nil,joinsT,IT.step,Option.some.injEq,Prod.mk.injEq,List.cons.injEq,and_true,true_and] at e;obtain⟨rfl,rfl⟩:=e;exact⟨rfl,λ_=>h,rfl,rfl,λi hi=>by simp at hi⟩
 |y::l,h,e=>by
  simp only[List.map_cons,joinsT,IT.step] at e
  cases e1:IT.run (afun cx) n (afun cx 110 [a,.int .i64 y]) h with
  |none=>simp[e1] at e
  |some R=>
   simp only[e1] at e;split at e
   ·rename_i r1 h1 heq
    cases heq
    obtain⟨p,f,f0,f1,f2⟩:=joins_con e;refine⟨p,λ|0=>h|i+1=>f i,rfl,f1,λi hi=>?_⟩
    cases i with
    |zero=>exact⟨r1,by simpa[f0] using e1⟩
    |succ i=>exact f2 i (by simpa using hi)
   ·cases e
theorem Inv.putDef (hi:Inv γ h w) {D:Nat} {ds:Option (List Deferred)} {o':Obj} (hD:w.heap[D]?=some (.deferred ds)):Inv γ h (w.putObj D o'):=by
 have ne:∀{b:Nat} {us:Array Value} {e:TypeId} {fr:Nat×Nat},w.heap[b]?=some (.cells us e fr)→b≠D:=λhb e=>by rw[e,hD] at hb;cases hb
 have oth:∀{b:Nat},b≠D→(w.putObj D o').heap[b]?=w.heap[b]?:=λhne=>World.putObj_heap_other hne;refine⟨λb o v hv=>?_,hi.obj,λid cs hc b hm=>?_,λid es hc b hm=>?_,hi.mu,λb x hx=>by have:=hi.own b x hx;simpa using this,λb n hn=>?_⟩
 ·obtain⟨p,q,r⟩:=hi.imm b o v hv;refine⟨?_,q,r⟩;rw[cell?_of_heap (oth λe=>?_)]
  ·exact p
  ·subst e;simp[World.cell?,hD] at p
 ·obtain⟨us,e,fr,p,q⟩:=hi.cells id cs hc b hm;exact⟨us,e,fr,by rw[oth (ne p)];exact p,q⟩
 ·obtain⟨ents,clock,p,q⟩:=hi.map id es hc b hm;exact⟨ents,clock,by rw[oth (λe=>by rw[e,hD] at p;cases p)];exact p,q⟩
 ·obtain⟨⟨us,e,fr,p,q⟩,r⟩:=hi.sz b n hn;exact⟨⟨us,e,fr,by rw[oth (ne p)];exact p,q⟩,r⟩
theorem Acc.putDef {γ':Gh} {w':World} (ha:Acc γ w γ' w') {D:Nat} {o':Obj} (hD:w.heap.size≤D):Acc γ w γ' (w'.putObj D o'):=
 ⟨ha.le,by simpa using ha.size,ha.os,ha.tape,ha.output,λb hb hn=>⟨(World.putObj_heap_other (by omega)).trans (ha.keep b hb hn).1,(ha.keep b hb hn).2⟩⟩
theorem Acc.late {γ':Gh} {w':World} {b:Nat} {w0:World} (ha:Acc γ w γ' w') (hi:Inv γ h w0) (h1:w0.heap.size≤b) (h2:b<w.heap.size):w'.heap[b]?=w.heap[b]?:=
 (ha.keep b h2 λid e=>by have:=hi.own b _ e;omega).1
theorem sl_one (γ:Gh) (b:Nat) (x:Int) (hb:γ.imm b 0=some (.int .i64 x)):VRel γ (.sl 1 [[.int .i64 x]]) (.slice (some ⟨b,0,none⟩) 1 1):=
 ⟨⟨b,0,none⟩,1,rfl,by simp[maxLen],.inl rfl,⟨rfl,⟨⟨_,hb,rfl⟩,trivial⟩,trivial⟩⟩
theorem neq_inv {r v:AVal} (h:peval (.int .neq) [r,.int .i64 0]=some v):∃a,r= .int .i64 a∧v= .bool (decide (a≠0)):=by
 cases r with
 |int k a=>
  cases k
  all_goals first|(rw[pe_neq] at h;cases h;exact⟨a,rfl,rfl⟩)|(cases h;exact⟨a,rfl,by by_cases h:a=0<;>simp[h]⟩)|cases h
 |_=>cases h
set_option maxRecDepth 100000 in
set_option maxHeartbeats 4000000 in
theorem norm559e {g:Nat} {x e:Int} {w:World} {R1:World→Prop} (he:e≠0)
  (hcheck:Calls Proofs.Tryz.prog 27 #[.pointer (some ⟨g,0,none⟩),.int .i64 (-1),.slice (some ⟨w.heap.size,0,none⟩) 1 1] (w.alloc (.cells #[.int .i64 x] 3)) λen W=>en= .returned (.int .i64 e)∧R1 W):
  Calls Proofs.Tryz.prog 64 #[.pointer (some ⟨g,0,none⟩),.int .i64 x] w λen w'=>en= .returned (.int .i64 e)∧R1 w':=by
 have d1:(!decide (e=0))=true:=by simp[he]
 have d2:(e != 0)=true:=by simpa using he
 have d3:(e==0)=false:=by simpa using he
 refine(callsIn_wide (n:=5)).1 ?_;refine callsIn_of_wp_marks Proofs.Tryz.func64 rfl trivial ?_;simp only[Proofs.Tryz.ntmps64,List.size_toArray,List.length_cons,List.length_nil,Nat.reduceAdd,Nat.reduceSub,Array.replicate_succ,Array.replicate_zero,List.push_toArray,List.append_toArray,List.nil_append,List.cons_append]
 gi_wp2
 refine⟨trivial,(callsIn_wide.2 hcheck).mono ?_⟩;rintro en W1 ⟨rfl,r1⟩
 gi_wp2
 refine⟨.int .i64 e,?_,rfl,r1⟩;simp[results,Proofs.Tryz.f64,go_sem]
set_option maxHeartbeats 2000000 in
theorem prim559 (n:Nat) (hs:SimCalls cx (IT.run (afun cx) n)) (args:List AVal) (r:AVal) (h':AHeap) (hrun:IT.step (afun cx) (IT.run (afun cx) n) (pNormalize 27 110 args) h=some (.ret,[r],h')):
  (∃fn c,cx.P.funcs[realOf 64]?=some fn∧(fn.name== "runtime.NumGoroutine")=false∧fn.body=some c)∧
  ∀(γ:Gh) (w:World) (cargs:Array Value),Inv γ h w→(∀g cs,cx.glob g=some cs→VRelM γ cs g 0)→VRelV γ args cargs.toList→
   Calls cx.P (realOf 64) cargs w λe w'=>match e with
    | .returned v=>∃γ',Inv γ' h' w'∧Acc γ w γ' w'∧VRel γ' r v∧(cx.ownRet 64=true→∃s c,OwnT γ' w.heap.size w' s c v r)
    |_=>False:=by
 refine⟨⟨_,_,Proofs.Tryz.func64,rfl,rfl⟩,λγ w cargs hi hg ha=>?_⟩;unfold pNormalize at hrun;split at hrun
 ·rename_i id0 y0;obtain⟨v0,us,hcg,⟨g,hm,rfl⟩,v1,us1,rfl,rfl,hnil⟩:=ha
  cases hnil
  have hcargs:cargs=#[.pointer (some ⟨g,0,none⟩),.int .i64 y0]:=by apply Array.ext';simpa using hcg
  subst hcargs;obtain⟨hi1,ha1⟩:=alloc_claim hi #[.int .i64 y0] 3 (0,0) 1 none (λo u ho hu=>by
   obtain rfl:o=0:=by omega
   cases hu;rfl) (.inl rfl)
  have hg1:∀{γ':Gh},γ.le γ'→∀g cs,cx.glob g=some cs→VRelM γ' cs g 0:=λhle g cs hgc=>VRelM.mono hle cs g 0 (hg g cs hgc);obtain⟨a0,ea0⟩:∃a0,AVal.ptr (some (id0,0))=a0:=⟨_,rfl⟩;obtain⟨x0,ex0⟩:∃x0,AVal.int .i64 y0=x0:=⟨_,rfl⟩;rw[ea0,ex0] at hrun;simp only[IT.step] at hrun
  cases e1:IT.run (afun cx) n (afun cx 27 [a0,.int .i64 (-1),.sl 1 [[x0]]]) h with
  |none=>simp[e1] at hrun
  |some R1=>
  simp only[e1] at hrun;split at hrun
  ·rename_i r1 h1 heq
   cases heq
   cases eN:peval (.int .neq) [r1,.int .i64 0] with
   |none=>simp[eN] at hrun
   |some vN=>
   obtain⟨e9,rfl,rfl⟩:=neq_inv eN;simp only[eN] at hrun;by_cases he9:e9=0
   ·subst he9;simp only[ne_eq,not_true_eq_false,decide_false] at hrun
    cases e2:IT.run (afun cx) n (afun cx 110 [a0,x0]) h1 with
    |none=>simp[e2] at hrun
    |some R2=>
    simp only[e2] at hrun;split at hrun
    ·rename_i r2 h2 heq
     cases heq
     simp only[meval] at hrun
     cases e3:gPre h2 [a0,x0] with
     |none=>simp[e3] at hrun
     |some R3=>
     obtain⟨h3,r3⟩:=R3;simp only[e3] at hrun;unfold gPre at e3;split at e3
     ·rename_i id x heq
      cases heq
      split at e3
      ·rename_i nid off nn l0 hc;split at e3
       ·rename_i l hl;split at e3
        ·rename_i hln
         cases e3
         simp only at hrun;obtain⟨rfl,fh,f0,f1,f2⟩:=joins_con hrun
         cases ea0
         cases ex0
         refine(norm559 (g:=g) (f:=nn+1) (x:=y0) (l:=l) (w:=w) (R1:=λW=>∃γ2,Inv γ2 h1 W∧Acc γ w γ2 W) (R2:=λW=>∃γ2,Inv γ2 h2 W∧Acc γ w γ2 W)
          (S:=λW W5 i W'=>∃γ2,Inv γ2 h2 W∧Acc γ w γ2 W∧Below W.heap.size W W5∧∃γ3,Inv γ3 (fh i) W'∧Acc γ2 W5 γ3 W') hln ?_ ?_ ?_ ?_ ?_ ?_).mono ?_
         ·refine((hs.2 27 _ _ _ _ e1).2 _ _ #[.pointer (some ⟨g,0,none⟩),.int .i64 (-1),.slice (some ⟨w.heap.size,0,none⟩) 1 1] hi1 (hg1 ha1.le) ⟨_,_,rfl,⟨g,ha1.le.mu _ _ hm,rfl⟩,_,_,rfl,rfl,_,_,rfl,sl_one _ _ _ (by simp[Gh.claim]),rfl⟩).mono λe w' he=>?_
          cases e with
          |returned v=>
           obtain⟨γ2,hi2,ha2,hv,_⟩:=he
           cases hv
           exact⟨rfl,γ2,hi2,ha1.trans ha2⟩
          |_=>exact he.elim
         ·rintro W ⟨γ2,hi2,ha2⟩;refine((hs.2 110 _ _ _ _ e2).2 γ2 W #[.pointer (some ⟨g,0,none⟩),.int .i64 y0] hi2 (hg1 ha2.le) ⟨_,_,rfl,⟨g,ha2.le.mu _ _ hm,rfl⟩,_,_,rfl,rfl,rfl⟩).mono λe w' he=>?_
          cases e with
          |returned v=>obtain⟨γ3,hi3,ha3,hv,_⟩:=he;exact⟨⟨v,rfl⟩,γ3,hi3,ha2.trans ha3⟩
          |_=>exact he.elim
         ·rintro W ⟨γ2,hi2,ha2⟩;exact preOf_mem hi2 (ha2.le.mu _ _ hm) hl
         ·rintro W W5 ⟨γ2,hi2,ha2⟩ hb;obtain⟨hi3,_⟩:=hi2.of_below hb;exact⟨γ2,hi2,ha2,hb,γ2,by rw[f0];exact hi3,.refl _ _⟩
         ·rintro W W5 i W' b ⟨γ2,hi2,ha2,hb,γ3,hi3,ha3⟩ hb1 hb2;exact ha3.late hi2 hb1 hb2
         ·rintro W W5 i W' hi' ⟨γ2,hi2,ha2,hb,γ3,hi3,ha3⟩;obtain⟨rr,er⟩:=f2 i hi';refine((hs.2 110 _ _ _ _ er).2 γ3 W' #[.pointer (some ⟨g,0,none⟩),.int .i64 l[i]] hi3 (hg1 (ha2.le.trans ha3.le)) ⟨_,_,rfl,⟨g,(ha2.le.trans ha3.le).mu _ _ hm,rfl⟩,_,_,rfl,rfl,rfl⟩).mono λe w' he=>?_
          cases e with
          |returned v=>obtain⟨γ4,hi4,ha4,hv,_⟩:=he;exact⟨⟨v,rfl⟩,γ2,hi2,ha2,hb,γ4,hi4,ha3.trans ha4⟩
          |_=>exact he.elim
         ·rintro e w' ⟨rfl,W,W5,W6,D,_,⟨γ2,hi2,ha2,hb,γ3,hi3,ha3⟩,hK,hD,rfl⟩;obtain⟨_,hab⟩:=hi2.of_below hb;rw[f1] at hi3;exact⟨γ3,hi3.putDef hK,((ha2.trans hab).trans ha3).putDef (Nat.le_trans ha2.size hD),rfl,λe=>by cases e⟩
        ·cases e3
       ·cases e3
      ·cases e3
     ·cases e3
    ·cases hrun
   ·simp only[ne_eq,he9,not_false_eq_true,decide_true] at hrun
    cases hrun
    subst ea0;subst ex0;refine(norm559e (g:=g) (x:=y0) (e:=e9) (w:=w) (R1:=λW=>∃γ2,Inv γ2 h' W∧Acc γ w γ2 W) he9 ?_).mono ?_
    ·refine((hs.2 27 _ _ _ _ e1).2 _ _ #[.pointer (some ⟨g,0,none⟩),.int .i64 (-1),.slice (some ⟨w.heap.size,0,none⟩) 1 1] hi1 (hg1 ha1.le) ⟨_,_,rfl,⟨g,ha1.le.mu _ _ hm,rfl⟩,_,_,rfl,rfl,_,_,rfl,sl_one _ _ _ (by simp[Gh.claim]),rfl⟩).mono λe w' he=>?_
     cases e with
     |returned v=>
      obtain⟨γ2,hi2,ha2,hv,_⟩:=he
      cases hv
      exact⟨rfl,γ2,hi2,ha1.trans ha2⟩
     |_=>exact he.elim
    ·rintro e w' ⟨rfl,γ2,hi2,ha2⟩;exact⟨γ2,hi2,ha2,rfl,λe=>by cases e⟩
  ·cases hrun
 ·cases hrun
end
end Go.Am
end
section
namespace Go.Am
open Go Go.RowKit Go.Shelf
section
variable {γ:Gh} {h:AHeap} {w:World}
theorem preSL_mem {f:Int→Option (List (Int×List Int))}:∀{ks:List Int} {l:List (Int×List Int)},preSL f ks=some l→(∀y∈ks,(f y).isSome=true)∧l=ks.flatMap λy=>(f y).getD []
 |[],l,e=>by cases e;exact⟨λ_ h=>(by cases h),rfl⟩
 |y::ks,l,e=>by
  unfold preSL at e;split at e
  ·rename_i a b h1 h2
   cases e
   obtain⟨p,q⟩:=preSL_mem h2;refine⟨λz hz=>?_,by rw[List.flatMap_cons,←q,h1];rfl⟩;rcases List.mem_cons.1 hz with rfl|hz
   ·rw[h1];rfl
   ·exact p z hz
  ·cases e
theorem preS_cons {K:Int→Option (List Int)} {f:Nat} {x:Int} {l:List (Int×List Int)} (e:preS K f x=some l):∃f' ks l',f=f'+1∧K x=some ks∧preSL (preS K f') ks=some l'∧l=(x,ks)::l':=by
 cases f with
 |zero=>cases e
 |succ f=>unfold preS at e;obtain⟨ks,h1,h2⟩:=Option.bind_eq_some_iff.1 e;obtain⟨l',h3,rfl⟩:=Option.map_eq_some_iff.1 h2;exact⟨f,ks,l',rfl,h1,h3,rfl⟩
theorem preS_all {K:Int→Option (List Int)}:∀{f:Nat} {x:Int} {l:List (Int×List Int)},preS K f x=some l→∀p∈l,K p.1=some p.2
 |0,x,l,e=>by cases e
 |f+1,x,l,e=>by
  obtain⟨f',ks,l',e1,h1,h2,rfl⟩:=preS_cons e
  cases e1
  obtain⟨p,q⟩:=preSL_mem h2;intro z hz;rcases List.mem_cons.1 hz with rfl|hz
  ·exact h1
  ·rw[q] at hz;obtain⟨y,hy,hz⟩:=List.mem_flatMap.1 hz;obtain⟨l2,hl2⟩:=Option.isSome_iff_exists.1 (p y hy);rw[hl2] at hz;exact preS_all hl2 z hz
abbrev encS (p:Int×List Int):List AVal:=(p.1::p.2).map (AVal.int .i64)
theorem encS_inj:∀{l l':List (Int×List Int)},l.map encS=l'.map encS→l=l'
 |[],[],_=>rfl
 |[],_::_,e=>by cases e
 |_::_,[],e=>by cases e
 |p::l,q::l',e=>by
  simp only[List.map_cons,List.cons.injEq] at e;obtain⟨⟨e1,e2⟩,e3⟩:=e;have e4:p.2=q.2:=by
   have inj:∀{a b:List Int},a.map (AVal.int .i64)=b.map (AVal.int .i64)→a=b:=λ{a}=>by
    induction a with
    |nil=>intro b e;cases b with
     |nil=>rfl
     |cons _ _=>cases e
    |cons x a ih=>intro b e;cases b with
     |nil=>cases e
     |cons y b=>simp only[List.map_cons,List.cons.injEq] at e;obtain⟨e1,e2⟩:=e;cases e1;rw[ih e2]
   exact inj e2
  cases e1':p;cases e2':q
  rw[e1',e2'] at e1 e4
  cases e1
  simp only at e4;rw[e4,encS_inj e3]
theorem gPreS_mem {id:Nat} {x:Int} {h1:AHeap} {r:AVal} (e:gPreS h [.ptr (some (id,0)),.int .i64 x]=some (h1,r)):h1=h∧∃f l,preS (kidsOf h id) f x=some l∧r= .sl 1 (l.map encS):=by
 unfold gPreS at e;split at e
 ·rename_i id' x' heq
  cases heq
  split at e
  ·split at e
   ·rename_i l hl
    cases e
    exact⟨rfl,_,l,hl,rfl⟩
   ·cases e
  ·cases e
 ·cases e
theorem own_con {n:Nat} {id:Nat} {d r:AVal} {x:Int} {res:AVal} {h':AHeap}:∀{l:List (Int×List Int)} {h:AHeap},IT.step (afun cx) (IT.run (afun cx) n) (ownT 135 (.ptr (some (id,0))) d (.int .i64 x) r (l.map encS)) h=some (.ret,[res],h')→
  res= .tuple []∧∃f:Nat→AHeap,f 0=h∧f l.length=h'∧∀i (hi:i<l.length),(∃r1,IT.run (afun cx) n (afun cx 135 [.int .i64 l[i].1,.rptr [.ptr (some (id,0))],.rptr [d]]) (f i)=some (.ret,[r1],f (i+1)))∧gPreS (f (i+1)) [.ptr (some (id,0)),.int .i64 x]=some (f (i+1),r)
 |[],h,e=>by simp only[List.map_nil,ownT,IT.step,Option.some.injEq,Prod.mk.injEq,List.cons.injEq,and_true,true_and] at e;obtain⟨rfl,rfl⟩:=e;exact⟨rfl,λ_=>h,rfl,rfl,λi hi=>by simp at hi⟩
 |p::l,h,e=>by
  simp only[List.map_cons,encS,ownT,IT.step,targetOf] at e;split at e
  ·rename_i r1 h1 heq
   cases heq
   simp only[meval] at e;split at e
   ·rename_i r2 h2 e2;split at e
    ·rename_i h3 r3 e3;obtain⟨rfl,_⟩:=gPreS_mem e3;split at e
     ·rename_i hb;have hb:=AVal.beq_eq hb;subst hb;obtain⟨q,f,f0,f1,f2⟩:=own_con e;refine⟨q,λ|0=>h|i+1=>f i,rfl,f1,λi hi=>?_⟩
      cases i with
      |zero=>exact⟨⟨_,by simpa[f0] using e2⟩,by simpa[f0] using e3⟩
      |succ i=>exact f2 i (by simpa using hi)
     ·cases e
    ·cases e
   ·cases e
  ·cases e
theorem Inv.putLoop (hi:Inv γ h w) {D:Nat} {ob o':Obj} (hD:w.heap[D]?=some ob) (n1:∀us e fr,ob≠ .cells us e fr) (n2:∀es c,ob≠ .map es c):Inv γ h (w.putObj D o'):=by
 have ne:∀{b:Nat} {us:Array Value} {e:TypeId} {fr:Nat×Nat},w.heap[b]?=some (.cells us e fr)→b≠D:=λhb e=>by rw[e,hD] at hb;cases hb;exact n1 _ _ _ rfl
 have oth:∀{b:Nat},b≠D→(w.putObj D o').heap[b]?=w.heap[b]?:=λhne=>World.putObj_heap_other hne;refine⟨λb o v hv=>?_,hi.obj,λid cs hc b hm=>?_,λid es hc b hm=>?_,hi.mu,λb x hx=>by have:=hi.own b x hx;simpa using this,λb n hn=>?_⟩
 ·obtain⟨p,q,r⟩:=hi.imm b o v hv;refine⟨?_,q,r⟩;rw[cell?_of_heap (oth λe=>?_)]
  ·exact p
  ·subst e
   cases ob with
   |cells us e fr=>exact n1 _ _ _ rfl
   |_=>simp[World.cell?,hD] at p
 ·obtain⟨us,e,fr,p,q⟩:=hi.cells id cs hc b hm;exact⟨us,e,fr,by rw[oth (ne p)];exact p,q⟩
 ·obtain⟨ents,clock,p,q⟩:=hi.map id es hc b hm;exact⟨ents,clock,by rw[oth (λe=>by rw[e,hD] at p;cases p;exact n2 _ _ rfl)];exact p,q⟩
 ·obtain⟨⟨us,e,fr,p,q⟩,r⟩:=hi.sz b n hn;exact⟨⟨us,e,fr,by rw[oth (ne p)];exact p,q⟩,r⟩
end
set_option maxRecDepth 100000 in
set_option maxHeartbeats 2000000 in
theorem visitA {g lp id:Nat} {rows:List (Int×List Int)} {fh:Nat→AHeap} {J:Nat→Gh→World→Prop}
  (hJI:∀i γ W,J i γ W→Inv γ (fh i) W∧γ.mu id=some g)
  (hJ:∀i γ W W',J i γ W→Below W.heap.size W W'→J i γ W')
  (hK:∀i,i≤rows.length→∀p∈rows,kidsOf (fh i) id p.1=some p.2)
  (hY:∀i γ W (hi:i<rows.length),J i γ W→YieldAt Fence.wide 0 Proofs.Tryz.prog lp #[.int .i64 rows[i].1] W λe W'=>e= .returned (.bool true)∧∃γ',J (i+1) γ' W'∧Acc γ W γ' W')
  {K:Int→Option (List Int)}:
  ∀(f:Nat) (x:Int) (ks:List Int) (l t:List (Int×List Int)) (i:Nat) (γ:Gh) (W:World),preS K f x=some ((x,ks)::l)→(x,ks)∈rows→rows.drop i=l++t→i≤rows.length→J i γ W→
   Calls Proofs.Tryz.prog 139 #[.pointer (some ⟨g,0,none⟩),.int .i64 x,.func (.yield lp) #[] #[]] W λe W'=>e= .returned (.bool true)∧∃γ',J (i+l.length) γ' W'∧Acc γ W γ' W'
 |0,_,_,_,_,_,_,_,hp,_,_,_,_=>by cases hp
 |f+1,x,ks,l,t,i,γ,W,hp,hmem,hdrop,hile,hj=>by
  have ih:=visitA (g:=g) (lp:=lp) hJI hJ hK hY (K:=K) f;obtain⟨f',ks',l',e1,_,h2,e2⟩:=preS_cons hp
  cases e1
  cases e2
  obtain⟨hsome,hl⟩:=preSL_mem h2;obtain⟨m,hm⟩:∃m:Int→List (Int×List Int),m=λy=>(preS K f y).getD []:=⟨_,rfl⟩;have hl:l=ks.flatMap m:=by rw[hm];exact hl
  have hmy:∀y∈ks,∃ky ly,preS K f y=some ((y,ky)::ly)∧m y=(y,ky)::ly:=λy hy=>by obtain⟨l2,hl2⟩:=Option.isSome_iff_exists.1 (hsome y hy);obtain⟨_,ky,ly,_,_,_,e3⟩:=preS_cons hl2;exact⟨ky,ly,by rw[hl2,e3],by rw[hm];simp only[hl2,e3];rfl⟩
  clear hsome hm h2;obtain⟨hiv,hmu⟩:=hJI i γ W hj;have hk1:=kidsOf_mem hiv hmu (hK i hile _ hmem);refine(callsIn_wide (n:=5)).1 ?_;refine callsIn_of_wp Proofs.Tryz.func139 rfl trivial ?_ rfl;simp only[Proofs.Tryz.ntmps139,List.size_toArray,List.length_cons,List.length_nil,Nat.reduceAdd,Nat.reduceSub,Array.replicate_succ,Array.replicate_zero,List.push_toArray,List.append_toArray,List.nil_append,List.cons_append]
  gi_wp2
  refine⟨trivial,(callsIn_wide.2 (kids84 hk1)).mono ?_⟩;rintro e W1 ⟨v,rfl,hs,b1⟩;have j1:=hJ _ _ _ _ hj b1;obtain⟨_,a1⟩:=hiv.of_below b1;have hv:∃ao capv,v= .slice ao ks.length capv∧ks.length≤9223372036854775807∧∀j (hj:j<ks.length) (γ':Gh) (wr:World),Acc γ W1 γ' wr→∃b,ao=some ⟨b,0,none⟩∧wr.cell? ⟨b,j,none⟩=some (.int .i64 ks[j]):=by
   rcases hs with⟨rfl,rfl⟩|⟨b,cap,cur,t,rfl,hlo,hc,hl,hcm,ht⟩
   ·exact⟨none,0,rfl,by simp,λi hi=>by simp at hi⟩
   ·have hbl:b<W1.heap.size:=(Array.getElem?_eq_some_iff.1 hc).1;refine⟨some ⟨b,0,none⟩,cap,rfl,Nat.le_trans hl (Nat.le_trans hcm (by decide)),λj hj γ' wr hk=>⟨b,rfl,?_⟩⟩;have e1:=(hk.keep b hbl λid e=>by have:=hiv.own b _ e;omega).1;exact pcell_take (e1.trans hc) ht hj
  obtain⟨ao,capv,rfl,hmx,hcell⟩:=hv;clear hs hk1;have HK:=hide hK;have HY:=hide hY;have HJI:=hide hJI;have HJ:=hide hJ;have HD:=hide hdrop;have HM:=hide hmy;have HIH:=hide ih;have HC:=hide hcell;clear hK hY hJI hJ hdrop hmy ih hcell hp
  gi_wp2
  gi_loopg [13] ks.length (λk v wr=>∃j,j≤ks.length∧k=ks.length-j∧v= .int .i64 (j:Nat)∧∃γ',J (i+((ks.take j).flatMap m).length) γ' wr∧Acc γ W1 γ' wr)
  case atStart=>exact⟨0,Nat.zero_le _,rfl,rfl,γ,by simpa using j1,.refl _ _⟩
  case round=>
   obtain⟨j,hj9,rfl,rfl,γ',jj,aj⟩:=hrel;by_cases hlt:j<ks.length
   ·obtain⟨b,rfl,hci⟩:=HC.out j hlt γ' wr aj;have hlti:(j:Int)<(ks.length:Int):=by exact_mod_cast hlt
    have hwi:=wrap_succ' j _ hlt hmx;obtain⟨ky,ly,hy1,hy2⟩:=HM.out _ (List.getElem_mem hlt);have esp:ks.flatMap m=(ks.take j).flatMap m++((ks[j],ky)::ly++(ks.drop (j+1)).flatMap m):=by
     rw[←hy2]
     calc ks.flatMap m=(ks.take j++ks.drop j).flatMap m:=by rw[List.take_append_drop]
      _=(ks.take j).flatMap m++(ks.drop j).flatMap m:=List.flatMap_append
      _=_:=by rw[List.drop_eq_getElem_cons hlt,List.flatMap_cons]
    have et:(ks.take (j+1)).flatMap m=(ks.take j).flatMap m++((ks[j],ky)::ly):=by rw[List.take_succ_eq_append_getElem hlt,List.flatMap_append];simp[hy2]
    obtain⟨o,eo⟩:∃o,((ks.take j).flatMap m).length=o:=⟨_,rfl⟩;have ed:rows.drop (i+o)=(ks[j],ky)::(ly++((ks.drop (j+1)).flatMap m++t)):=by rw[←List.drop_drop,HD.out,hl,esp,←eo,List.append_assoc,List.drop_left];simp[List.append_assoc]
    have eo1:((ks.take (j+1)).flatMap m).length=o+1+ly.length:=by rw[et,List.length_append,eo,List.length_cons];omega
    rw[eo] at jj;have hil:i+o<rows.length:=by have:=congrArg List.length ed;rw[List.length_drop,List.length_cons] at this;omega
    have eg:rows[i+o]=(ks[j],ky):=by have:=List.drop_eq_getElem_cons hil;rw[ed] at this;exact(List.cons.inj this).1.symm
    have ed1:rows.drop (i+o+1)=ly++((ks.drop (j+1)).flatMap m++t):=by have:=List.drop_eq_getElem_cons hil;rw[ed] at this;exact(List.cons.inj this).2.symm
    have hyy:=HY.out (i+o) γ' wr hil jj;rw[eg] at hyy;obtain⟨fn,tmps,assign,body,hy,hR⟩:=hyy;have hR2:∀k,RoundIn Fence.wide k Proofs.Tryz.prog lp fn tmps assign body wr _:=λk=>⟨hR.1,λc cs _=>hR.2 c cs (room_wide _)⟩;clear hR hy2 esp;have ED:=hide ed1;have EG:=hide eg;have ET:=hide eo1;clear ed1 eg eo1 ed et
    gi_wp2
    refine(hR2 _).mono ?_;rintro e W3 ⟨rfl,γ3,j3,a3⟩;have hcc:=HIH.out ks[j] ky ly _ (i+o+1) γ3 W3 hy1 (by have:=EG.out;rw[←this];exact List.getElem_mem hil) ED.out (by omega) j3
    gi_wp2
    refine⟨trivial,(callsIn_wide.2 hcc).mono ?_⟩;rintro e W4 ⟨rfl,γ4,j4,a4⟩
    gi_wp2
    gi_roundg (ks.length-(j+1))
    case measure=>exact Nat.sub_lt_sub_left hlt (Nat.lt_succ_self j)
    case rel=>
     refine⟨j+1,hlt,rfl,?_,γ4,?_,aj.trans (a3.trans a4)⟩
     ·first|rfl|exact congrArg (Value.int .i64) hwi
     ·rw[ET.out,show i+(o+1+ly.length)=i+o+1+ly.length by omega];exact j4
   ·obtain rfl:j=ks.length:=Nat.le_antisymm hj9 (Nat.le_of_not_lt hlt);rw[List.take_length,←hl] at jj
    gi_wp2
    refine bodyPost_ret (results_tmp rfl _ _ _) rfl ?_;exact⟨rfl,γ',jj,a1.trans aj⟩
end Go.Am
end
