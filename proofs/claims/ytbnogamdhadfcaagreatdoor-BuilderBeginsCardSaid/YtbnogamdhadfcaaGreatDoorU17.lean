/- Lemmas -/
import Derived.Test.YtbnogamdhadfcaaGreatDoorU16
import Derived.RangeFuncBox
import Derived.OwnWalkIn
import Derived.TacticsInMore
import Derived.LoopNIn
import Derived.Sort.LoopGhostIn
set_option linter.unusedVariables false
set_option linter.unusedSimpArgs false
section
namespace Go.Am
open Go Go.RowKit Go.Shelf
theorem Xq(ga:Nat)(p:Option Addr)(n cap:Nat)(x:Int)(w:World)(hc:w.cell? ⟨ga,0,none⟩=some (.slice p n cap)):
  Calls Proofs.Tryz.prog 94 #[.pointer (some ⟨ga,0,none⟩),.int .i64 x] w λe w'=>e= .returned (.bool (decide (1<=x/\x<=n)))/\w=w':=by
 go_enter Proofs.Tryz.func94,Proofs.Tryz.ntmps94
 go_wp2
 all_goals refine bodyPost_ret (results_tmp rfl _ _ _) rfl ?_
 all_goals simp_all
 all_goals omega
theorem aEd(ga gn off n cap:Nat)(x:Int)(w:World)(hc:w.cell? ⟨ga,0,none⟩=some (.slice (some ⟨gn,off,none⟩) n cap))(h1:1<=x)(h2:x<=n)(NT:n<=cap)(hm:cap<=maxLen):
  Calls Proofs.Tryz.prog 43 #[.pointer (some ⟨ga,0,none⟩),.int .i64 x] w λe w'=>e= .returned (.pointer (some ⟨gn,off+(x.toNat-1)*13,none⟩))/\w=w':=by
 have hb:maxLen<=9223372036854775807:=by decide
 have hw:wrap64 (x-1)=x-1:=Go.IntWalk.wrap64_in _ ⟨by omega,by omega⟩;go_enter Proofs.Tryz.func43,Proofs.Tryz.ntmps43
 go_wp2
 all_goals refine bodyPost_ret (results_tmp rfl _ _ _) rfl ?_
 all_goals exact⟨rfl,rfl⟩
theorem aEe(ga:Nat)(x:Int)(w:World):
  Calls Proofs.Tryz.prog 264 #[.pointer (some ⟨ga,0,none⟩),.int .i64 x,.bool true] w λe w'=>e= .returned (.func (.func 302) #[] #[.pointer (some ⟨w.heap.size+1,0,none⟩),.pointer (some ⟨w.heap.size,0,none⟩),.pointer (some ⟨w.heap.size+1+1,0,none⟩)])/\
   w'=((w.alloc (.cells #[.pointer (some ⟨ga,0,none⟩)] 38)).alloc (.cells #[.int .i64 x] 3)).alloc (.cells #[.bool true] 4):=by
 have hmf:∀(fn:Fn) (first cap:Array Value) (w:World),(Instr.makeFunc fn first cap).run Proofs.Tryz.prog w= .ok (.func fn first cap) w:=λ_ _ _ _=>rfl;go_enter Proofs.Tryz.func264,Proofs.Tryz.ntmps264
 go_wp2
 go_ret
 exact⟨rfl,rfl⟩
theorem fX{cs:List Aa}{off n:Nat}{up:Int}{k:Nat}{b:Bool}(h:KB cs off n up k 0=some b):b=false:=by cases k<;>simp[KB] at h<;>exact h
theorem fY{cs:List Aa}{off n:Nat}{up x:Int}{k:Nat}{b:Bool}(h:KB cs off n up k x=some b)(hx:x≠0):∃k',k=k'+1/\
  ((x=up/\b=true)\/(x≠up/\1<=x/\x<=n/\∃p q,Ga cs off x 1=some p/\Ga cs off x 12=some q/\KB cs off n up k' (if p=0 then q else p)=some b)):=by
 cases k with
 |zero=>
  rw[KB] at h;· cases h
  .exact λe=>hx e
 |succ k=>
  refine⟨k,rfl,?_⟩;rw[KB] at h
  .split at h;·rename_i e;cases h;exact .inl ⟨e,rfl⟩
   .rename_i e;split at h
    .rename_i hr;split at h;·rename_i p q e1 e2;exact .inr ⟨e,hr.1,hr.2,p,q,e1,e2,h⟩
     .cases h
    .cases h
  .exact λe=>hx e
structure aS(Ba Bo ga gn off n cap:Nat)(cs:List Aa)(W:World):Prop where
 a:W.cell? ⟨Ba,0,none⟩=some (.pointer (some ⟨ga,0,none⟩))
 o:W.cell? ⟨Bo,0,none⟩=some (.bool true)
 c:W.cell? ⟨ga,0,none⟩=some (.slice (some ⟨gn,off,none⟩) n cap)
 x:∀(h:Int) (k:Nat) (v:Int),1<=h->h<=n->(k=1\/k=12)->Ga cs off h k=some v->W.cell? ⟨gn,off+(h.toNat-1)*13+k,none⟩=some (.int .i64 v)
theorem aS.MH{Ba Bo ga gn off n cap:Nat}{cs:List Aa}{A B:World}(h:aS Ba Bo ga gn off n cap cs A)(hk:∀b,b=Ba\/b=Bo\/b=ga\/b=gn->B.heap[b]?=A.heap[b]?):aS Ba Bo ga gn off n cap cs B:=
 ⟨by rw[Cw (hk _ (by simp))];exact h.a,by rw[Cw (hk _ (by simp))];exact h.o,by rw[Cw (hk _ (by simp))];exact h.c,
  λx k v h1 h2 h3 h4=>by rw[Cw (hk _ (by simp))];exact h.x x k v h1 h2 h3 h4⟩
theorem lG{Ba Bo ga gn off n cap Bh:Nat}{cs:List Aa}{A:World}{u:Value}{J:World->Prop}(hJ:∀A B row,J A->A.grownBy B row->(∀r,row=some r->r=Bh)->J B)
  (hd:∀b,b=Ba\/b=Bo\/b=ga\/b=gn->b≠Bh) (hs:aS Ba Bo ga gn off n cap cs A) (hc:A.cell? ⟨Bh,0,none⟩=some u) (hf:A.frozen? ⟨Bh,0,none⟩=false) (hj:J A) (v:Value):
  aS Ba Bo ga gn off n cap cs (A.setCell ⟨Bh,0,none⟩ v)/\(A.setCell ⟨Bh,0,none⟩ v).cell? ⟨Bh,0,none⟩=some v/\(A.setCell ⟨Bh,0,none⟩ v).frozen? ⟨Bh,0,none⟩=false/\J (A.setCell ⟨Bh,0,none⟩ v):=
 ⟨hs.MH λb hb=>Below.heap_setCell _ _ _ b (hd b hb),World.cell?_setCell_same _ _ _ hc,by rw[World.frozen?_setCell];exact hf,hJ _ _ _ hj (grownBy_setCell' A Bh v) λr e=>by cases e;rfl⟩
set_option maxRecDepth 100000 in
set_option maxHeartbeats 1600000 in
theorem aEf(m l Bh Ba Bo n₁ ga gn off n cap:Nat)(cs:List Aa)(up:Int)(J Jx:World->Prop)
  (hJ:∀A B row,J A->A.grownBy B row->(∀r,row=some r->r=Bh)->J B)
  (hY:∀x W,J W->YieldAt Fence.wide (m-1) Proofs.Tryz.prog l #[.int .i64 x] W λe W'=>(e= .returned (.bool true)/\J W'/\Below n₁ W W'/\x≠up)\/(e= .returned (.bool false)/\Jx W'/\x=up))
  (hd:∀b,b=Ba\/b=Bo\/b=ga\/b=gn->b<n₁/\b≠Bh) (hBh:Bh<n₁) (NT:n<=cap) (hm:cap<=maxLen)
  (W:World) (x0:Int) (hs:aS Ba Bo ga gn off n cap cs W) (hh:W.cell? ⟨Bh,0,none⟩=some (.int .i64 x0)) (hf:W.frozen? ⟨Bh,0,none⟩=false)
  (fuel:Nat) (b:Bool) (hcl:KB cs off n up fuel x0=some b) (h0:J W):
  CallsIn Fence.wide m Proofs.Tryz.prog 302 #[.func (.yield l) #[] #[],.pointer (some ⟨Bh,0,none⟩),.pointer (some ⟨Ba,0,none⟩),.pointer (some ⟨Bo,0,none⟩)] W λe W'=>(∃v,e= .returned v)/\((b=false/\J W')\/(b=true/\Jx W')):=by
 refine callsIn_of_wp Proofs.Tryz.func302 rfl trivial ?_ rfl;simp only[Proofs.Tryz.ntmps302,B6,Bc,BT,Nat.reduceAdd,Nat.reduceSub,TH,TI,eC,Wn,BH,CB];gi_wp2
 gi_loopg [] fuel (λk wr=>∃x,KB cs off n up k x=some b/\aS Ba Bo ga gn off n cap cs wr/\wr.cell? ⟨Bh,0,none⟩=some (.int .i64 x)/\wr.frozen? ⟨Bh,0,none⟩=false/\J wr)
 case atStart=>exact⟨x0,hcl,hs,hh,hf,h0⟩
 case round=>
  obtain⟨x,hcl,hs,hh,hf,hj⟩:=hrel;by_cases hx:x=0
  .subst hx;have:=fX hcl;subst this;gi_wp2
   refine⟨nofun,?_⟩;gi_wp2
   go_end0
   exact⟨⟨_,rfl⟩,hj⟩
  .obtain⟨k',rfl,Ie⟩:=fY hcl hx;have hne:(x != 0)=true:=by simp[hx]
   obtain⟨fn,tmps,assign,body,hy,hR⟩:=hY x wr hj;gi_wp2
   refine⟨nofun,?_⟩;refine hR.mono ?_;rintro e W3 (⟨rfl,hJ3,dY,ur⟩|⟨rfl,hJx3,ur⟩)
   .rcases Ie with⟨rfl,_⟩|⟨_,h1,h2,p,q,e1,e2,A_⟩
    .exact absurd rfl ur
    have B_:=hs.MH λb hb=>dY.block b (hd b hb).1;have hh3:W3.cell? ⟨Bh,0,none⟩=some (.int .i64 x):=by rw[Cw (dY.block Bh hBh)];exact hh
    have hf3:W3.frozen? ⟨Bh,0,none⟩=false:=by rw[<-hf];simp only[World.frozen?,dY.block Bh hBh]
    have hp:=B_.x x 1 p h1 h2 (.inl rfl) e1;have hq:=B_.x x 12 q h1 h2 (.inr rfl) e2;have ca3:=B_.a;have co3:=B_.o;have nBo:¬Bo=Bh:=(hd Bo (by simp)).2;have ngn:¬gn=Bh:=(hd gn (by simp)).2;gi_wp2
    refine⟨trivial,nofun,(callsIn_wide.2 (aEd ga gn off n cap x _ B_.c h1 h2 NT hm)).mono ?_⟩;rintro e w' ⟨rfl,rfl⟩;obtain⟨s4,c4,z4,j4⟩:=lG hJ (λb hb=>(hd b hb).2) B_ hh3 hf3 hJ3 (.int .i64 p);by_cases hp0:p=0
    .subst hp0;obtain⟨s5,c5,z5,j5⟩:=lG hJ (λb hb=>(hd b hb).2) s4 c4 z4 j4 (.int .i64 q);gi_wp2
     gi_roundg k'
     case measure=>omega
     case rel=>exact⟨q,A_,s5,c5,z5,j5⟩
    .have za:(p==0)=false:=by simp[hp0]
     gi_wp2
     gi_roundg k'
     case measure=>omega
     case rel=>exact⟨p,by rw[if_neg hp0] at A_;exact A_,s4,c4,z4,j4⟩
   .rcases Ie with⟨_,rfl⟩|⟨aJU,_⟩
    .gi_wp2
     go_end0
     exact⟨⟨_,rfl⟩,hJx3⟩
    .exact absurd ur aJU
def C_(n₁:Nat)(up:Int)(I Ix:World->Prop)(x:Int)(W:World):Exit->Act->World->Prop
 | .normal,_,W'=>KeepsOthers W W'/\Below n₁ W W'/\I W'/\x≠up
 | .ret,_,W'=>KeepsOthers W W'/\Ix W'/\x=up
 | .exit _,_,_=>False
 | .goto _,_,_=>False
 | .panic _,_,_=>False
 | .outgrown,_,_=>False
theorem Ys{P:Program}{n gf:Nat}{lb:Array Value}{g:Operand}{ps:Array Tmp}{assign body:Code}{Q:Exit->Act->World->Prop}{a:Act}{w:World}(Bh:Nat)(b:Bool)(up:Int)
  (hg:a.eval g= .func (.func gf) #[] lb) (eg:∀args w,(callFunc gf args).run P w= .ok (.enter gf args) w) (hBh:Bh<w.heap.size)
  (D_:∀(l:Nat) (J Jx:World->Prop) (W:World),Below w.heap.size w W->(∀A B row,J A->A.grownBy B row->(∀r,row=some r->r=Bh)->J B)->
   (∀x W1,J W1->YieldAt Fence.wide (n-1 -1) P l #[.int .i64 x] W1 λe W'=>(e= .returned (.bool true)/\J W'/\Below w.heap.size W1 W'/\x≠up)\/(e= .returned (.bool false)/\Jx W'/\x=up))->J W->
   CallsIn Fence.wide (n-1) P gf (#[.func (.yield l) #[] #[]]++lb) W λe W'=>(∃v,e= .returned v)/\((b=false/\J W')\/(b=true/\Jx W')))
  (fu:ps.size=1) (I Ix:World->Prop) (hI:∀A B row,I A->A.grownBy B row->(∀r,row=some r->r=Bh\/w.heap.size<=r)->I B)
  (hIx:∀A B row,Ix A->A.grownBy B row->(∀r,row=some r->r=Bh\/w.heap.size<=r)->Ix B) (h0:I w) (a₁:Int->Act)
  (hassign:∀(l:Nat) (x:Int) (W:World) (K:Act->World->Prop),K (a₁ x) W->
   assign.wpIn (Fence.wide.inRound l) (n-1 -1) P (Exit.then K (λ_ _ _=>False)) {tmps:=(ps.zip #[.int .i64 x]).foldl (λt (p,v)=>t.setIfInBounds p v) a.tmps,defers:=[]} W)
  (US:∀(l:Nat) (x:Int) (W:World),I W->body.wpIn (Fence.wide.inRound l) (n-1 -1) P (C_ w.heap.size up I Ix x W) (a₁ x) W)
  (wM:∀(D:Nat) (W:World),b=false->I W->W.heap[D]?=some (.deferred (some []))->w.heap.size<=D->Q .normal {a with defers:={target:= .collected D,args:=#[]}::a.defers} W)
  (wN:∀(D:Nat) (W:World),b=true->Ix W->W.heap[D]?=some (.deferred (some []))->w.heap.size<=D->Code.ret.wpIn Fence.wide n P Q {a with defers:={target:= .collected D,args:=#[]}::a.defers} W):
  (Code.rangeFunc g ps assign body).wpIn Fence.wide n P Q a w:=by
 refine wpIn_rangeFunc ?_;intro fn hfn;have hro:Fence.wide.round=none:=rfl;rw[hro];obtain⟨rec,WD⟩:∃rec:LoopState->Option Code->Loop,rec=λst pe=>{state:=st,pending:=pe,fn,tmps:=a.tmps,params:=ps,assign,body,defers:=w.heap.size}:=⟨_,rfl⟩;obtain⟨W1,hW1⟩:∃W1,(w.alloc (.deferred (some []))).alloc (.loop (rec .ready none))=W1:=⟨_,rfl⟩;have hL1:W1.heap[w.heap.size+1]?=some (.loop (rec .ready none)):=by rw[<-hW1];have:=World.alloc_heap_new (w.alloc (.deferred (some []))) (.loop (rec .ready none));rwa [World.size_alloc] at this
 have hK1:W1.heap[w.heap.size]?=some (.deferred (some [])):=by rw[<-hW1];exact(Below.heap_alloc _ _ _ (by simp)).trans (World.alloc_heap_new w _)
 have hI1:I W1:=by rw[<-hW1];exact hI _ _ none (hI _ _ none h0 (World.grownBy_alloc _ _ none) nofun) (World.grownBy_alloc _ _ none) nofun
 have Tl:Below w.heap.size w W1:=by rw[<-hW1];exact(((Below.refl _ w).alloc (Ac _) _).alloc (by simp) _)
 refine⟨w.heap.size+1,[{target:= .collected w.heap.size,args:=#[]}],W1,{target:= .fn (.func gf) lb,args:=#[.func (.yield (w.heap.size+1)) #[] #[]]},W1,gf,
  #[.func (.yield (w.heap.size+1)) #[] #[]]++lb,W1,?_,?_,?_,?_,nofun,?_⟩
 .rw[<-hW1,WD];exact run_enterLoop_outer _ _ _ _ _
 .simp only[resolve,hg];simp[go_sem]
 .intro f' vX;trivial
 .simp[invoke,go_sem,eg]
 .refine(D_ (w.heap.size+1)
   (λW=>I W/\W.heap[w.heap.size+1]?=some (.loop (rec .ready none))/\W.heap[w.heap.size]?=some (.deferred (some [])))
   (λW=>Ix W/\W.heap[w.heap.size+1]?=some (.loop (rec .done (some .ret)))/\W.heap[w.heap.size]?=some (.deferred (some [])))
   W1 Tl
   (λA B row hs hg' hr=>⟨hI A B row hs.1 hg' (λr e=> .inl (hr r e)),(hg'.block _ (A0.1 hs.2.1).1 (λe=>by have:=hr _ e.symm;omega)).trans hs.2.1,
    (hg'.block _ (A0.1 hs.2.2).1 (λe=>by have:=hr _ e.symm;omega)).trans hs.2.2⟩)
   ?_ ⟨hI1,hL1,hK1⟩).mono ?_
  .rintro x W ⟨hi,hl,hk⟩;have hlt:w.heap.size+1<W.heap.size:=(A0.1 hl).1;have hy:=run_yield (P:=P) (args:=#[.int .i64 x]) hl (by rw[WD];exact fu.symm);rw[WD] at hy;refine⟨fn,_,assign,body,hy,roundIn_of_wpIn hfn (hassign _ x W _ ⟨_,run_beginRound hl (by rw[WD]),?_⟩)⟩;have Xp:(W.putObj (w.heap.size+1) (.loop {rec .ready none with state:= .busy})).heap[w.heap.size+1]?=some (.loop {rec .ready none with state:= .busy}):=World.putObj_heap_same hlt;have Wi:(W.putObj (w.heap.size+1) (.loop {rec .ready none with state:= .busy})).heap[w.heap.size]?=some (.deferred (some [])):=(World.putObj_heap_other (by omega)).trans hk;have vV:Below w.heap.size W (W.putObj (w.heap.size+1) (.loop {rec .ready none with state:= .busy})):=belowK_b (Ac _) W _ _ _ (by omega) hl rfl rfl;refine wpIn_mono (US _ x _ (hI _ _ _ hi (grownBy_putObj' W _ _) (λr e=> .inr (by cases e;omega)))) ?_;have Hy:∀(jump:Option Code) (W3:World),KeepsOthers (W.putObj (w.heap.size+1) (.loop {rec .ready none with state:= .busy})) W3->
     (Instr.endRound (w.heap.size+1) jump).run P W3= .ok (.bool jump.isNone) (W3.putObj (w.heap.size+1) (.loop (rec (if jump.isNone then .ready else .done) jump)))/\
     W3.heap[w.heap.size+1]?=some (.loop {rec .ready none with state:= .busy})/\
     (W3.putObj (w.heap.size+1) (.loop (rec (if jump.isNone then .ready else .done) jump))).heap[w.heap.size+1]?=some (.loop (rec (if jump.isNone then .ready else .done) jump))/\
     (W3.putObj (w.heap.size+1) (.loop (rec (if jump.isNone then .ready else .done) jump))).heap[w.heap.size]?=some (.deferred (some [])):=λjump W3 dY=>by
    have ZG:=dY.same _ _ Xp rfl;have:=run_endRound (P:=P) jump ZG;rw[WD] at this⊢;exact⟨this,by rw[WD] at ZG;exact ZG,World.putObj_heap_same (A0.1 ZG).1,(World.putObj_heap_other (by omega)).trans (dY.same _ _ Wi rfl)⟩
   rintro e a3 W3 hp;cases e with
   |normal=>obtain⟨dY,aJW,gm,hne⟩:=hp;obtain⟨hr,ZG,hl4,gx⟩:=Hy none W3 dY;exact⟨_,_,hr,.inl ⟨rfl,⟨hI _ _ _ gm (grownBy_putObj' W3 _ _) (λr e=> .inr (by cases e;omega)),hl4,gx⟩,(vV.trans aJW).trans (belowK_b (Ac _) W3 _ _ _ (by omega) ZG rfl rfl),hne⟩⟩
   |ret=>obtain⟨dY,gm,he⟩:=hp;obtain⟨hr,ZG,hl4,gx⟩:=Hy (some .ret) W3 dY;exact⟨_,_,hr,.inr ⟨rfl,⟨hIx _ _ _ gm (grownBy_putObj' W3 _ _) (λr e=> .inr (by cases e;omega)),hl4,gx⟩,he⟩⟩
   |exit id=>exact hp.elim
   |goto t=>exact hp.elim
   |panic ch=>exact hp.elim
   |outgrown=>exact hp.elim
  .rintro e W2 ⟨⟨v,rfl⟩,⟨hb,hi,hl,hk⟩|⟨hb,hi,hl,hk⟩⟩;·exact⟨none,_,by have:=run_endLoop (P:=P) hl (by rw[WD];simp);rw[WD] at this;exact this,wM _ _ hb (hI _ _ _ hi (grownBy_putObj' W2 _ _) (λr e=> .inr (by cases e;omega))) ((World.putObj_heap_other (by omega)).trans hk) (Ac _)⟩
   .exact⟨some .ret,_,by have:=run_endLoop (P:=P) hl (by rw[WD];simp);rw[WD] at this;exact this,wN _ _ hb (hIx _ _ _ hi (grownBy_putObj' W2 _ _) (λr e=> .inr (by cases e;omega))) ((World.putObj_heap_other (by omega)).trans hk) (Ac _)⟩
theorem Cx{W:World}{k j:Nat}{v:Value}(o:Obj)(h:W.cell? ⟨k,j,none⟩=some v):(W.alloc o).cell? ⟨k,j,none⟩=some v:=by rw[World.cell?_alloc_past _ _ _ (Dn h)];exact h
theorem JU{W:World}{k j:Nat}{v:Value}(o:Obj)(h:W.cell? ⟨k,j,none⟩=some v):(W.alloc o).frozen? ⟨k,j,none⟩=W.frozen? ⟨k,j,none⟩:=
 World.frozen?_alloc_past _ _ _ (Dn h)
theorem KM(W:World)(v:Value)(t:TypeId):(W.alloc (.cells #[v] t)).cell? ⟨W.heap.size,0,none⟩=some v/\(W.alloc (.cells #[v] t)).frozen? ⟨W.heap.size,0,none⟩=false:=by
 have h:(W.alloc (.cells #[v] t)).heap[W.heap.size]?=some (.cells #[v] t (0,0)):=World.alloc_heap_new W _;constructor;·simp only[World.cell?,h];rfl
 .simp only[World.frozen?,h];rfl
theorem UY{A B:World}{row:Option Nat}{k:Nat}{v:Value}(h:A.cell? ⟨k,0,none⟩=some v)(hg:A.grownBy B row)(hr:∀r,row=some r->k≠r):
  B.cell? ⟨k,0,none⟩=some v/\B.frozen? ⟨k,0,none⟩=A.frozen? ⟨k,0,none⟩:=by
 have hb:B.heap[k]?=A.heap[k]?:=hg.block k (Dn h) (λe=>hr k e.symm rfl);exact⟨by rw[Cw hb];exact h,by simp only[World.frozen?,hb]⟩
set_option maxRecDepth 100000 in
set_option maxHeartbeats 2000000 in
theorem E_(ga gn off n cap:Nat)(cs:List Aa)(up x:Int)(w:World)(F_:ga<w.heap.size)(uv:gn<w.heap.size)(NT:n<=cap)(hm:cap<=maxLen)
  (hc:w.cell? ⟨ga,0,none⟩=some (.slice (some ⟨gn,off,none⟩) n cap))
  (hx:∀(h:Int) (k:Nat) (v:Int),1<=h->h<=n->(k=1\/k=12)->Ga cs off h k=some v->w.cell? ⟨gn,off+(h.toNat-1)*13+k,none⟩=some (.int .i64 v))
  (b:Bool) (hcl:KB cs off n up (n+1) x=some b) (Nu:1<=up) (Il:up<=n) (Nx:1<=x) (Yt:x<=n):
  Calls Proofs.Tryz.prog 197 #[.pointer (some ⟨ga,0,none⟩),.int .i64 up,.int .i64 x] w λe w'=>e= .returned (.bool b)/\Below w.heap.size w w':=by
 refine(callsIn_wide (n:=5)).1 ?_;refine callsIn_of_wp_marks Proofs.Tryz.func197 rfl trivial ?_;simp only[Proofs.Tryz.ntmps197,B6,Bc,BT,Nat.reduceAdd,Nat.reduceSub,TH,TI,eC,Wn,BH,CB];have c0:((w.alloc (.cells #[.int .i64 up] 3)).alloc (.cells #[.bool false] 4)).cell? ⟨ga,0,none⟩=some (.slice (some ⟨gn,off,none⟩) n cap):=by rw[World.cell?_alloc_past _ _ _ (by simp;omega),World.cell?_alloc_past _ _ _ F_];exact hc
 have n1:=KM w (.int .i64 up) 3;have n2:=KM (w.alloc (.cells #[.int .i64 up] 3)) (.bool false) 4;have n3:=KM ((w.alloc (.cells #[.int .i64 up] 3)).alloc (.cells #[.bool false] 4)) (.pointer (some ⟨ga,0,none⟩)) 38;have n4:=KM (((w.alloc (.cells #[.int .i64 up] 3)).alloc (.cells #[.bool false] 4)).alloc (.cells #[.pointer (some ⟨ga,0,none⟩)] 38)) (.int .i64 x) 3;have n5:=KM ((((w.alloc (.cells #[.int .i64 up] 3)).alloc (.cells #[.bool false] 4)).alloc (.cells #[.pointer (some ⟨ga,0,none⟩)] 38)).alloc (.cells #[.int .i64 x] 3)) (.bool true) 4;simp only[World.size_alloc] at n2 n3 n4 n5;have d1:decide (1<=up/\up<=n)=true:=AD ⟨Nu,Il⟩;have d2:decide (1<=x/\x<=n)=true:=AD ⟨Nx,Yt⟩;gi_wp2
 refine⟨trivial,(callsIn_wide.2 (Xq ga _ n cap up _ c0)).mono ?_⟩;rintro e w' ⟨rfl,rfl⟩;rw[d1];gi_wp2
 refine⟨trivial,(callsIn_wide.2 (Xq ga _ n cap x _ c0)).mono ?_⟩;rintro e w' ⟨rfl,rfl⟩;rw[d2];gi_wp2
 refine⟨trivial,(callsIn_wide.2 (aEe ga x _)).mono ?_⟩;rintro e w' ⟨rfl,rfl⟩;gi_wp2
 refine Ys (gf:=302) (lb:=#[.pointer (some ⟨w.heap.size+1+1+1,0,none⟩),.pointer (some ⟨w.heap.size+1+1,0,none⟩),.pointer (some ⟨w.heap.size+1+1+1+1,0,none⟩)]) (w.heap.size+1+1+1) b up rfl (Go.Proofs.enters_of Proofs.Tryz.func302 (by kernel_rfl) rfl) (by simp)
  ?D_ rfl
  (λW=>Below w.heap.size w W/\W.cell? ⟨w.heap.size,0,none⟩=some (.int .i64 up)/\W.cell? ⟨w.heap.size+1,0,none⟩=some (.bool false)/\W.frozen? ⟨w.heap.size+1,0,none⟩=false)
  (λW=>Below w.heap.size w W/\W.cell? ⟨w.heap.size+1,0,none⟩=some (.bool true)) ?hI ?hIx ?h0
  (λy=>{tmps:=#[.pointer (some ⟨ga,0,none⟩),.int .i64 up,.int .i64 x,undef,.pointer (some ⟨w.heap.size,0,none⟩),undef,.pointer (some ⟨w.heap.size+1,0,none⟩),.int .i64 y,.pointer (some ⟨ga,0,none⟩),.int .i64 up,.bool true,.bool false,.bool false,.pointer (some ⟨ga,0,none⟩),.int .i64 x,.bool true,.bool false,.bool false,.pointer (some ⟨ga,0,none⟩),.int .i64 x,.func (.func 302) #[] #[.pointer (some ⟨w.heap.size+1+1+1,0,none⟩),.pointer (some ⟨w.heap.size+1+1,0,none⟩),.pointer (some ⟨w.heap.size+1+1+1+1,0,none⟩)],.int .i64 y,undef,undef,undef],defers:=[]})
  ?hassign ?US ?wM ?wN
 case hI=>rintro A B row ⟨h1,h2,h3,h4⟩ hg hr;have IP:=Dn h3;have k1:=UY h2 hg (λr e=>by rcases hr r e with rfl|h<;>simp at* <;>omega);have k2:=UY h3 hg (λr e=>by rcases hr r e with rfl|h<;>simp at* <;>omega);exact⟨h1.grown hg (by omega) (λk e=>by rcases hr k e with rfl|h<;>simp at* <;>omega),k1.1,k2.1,k2.2.trans h4⟩
 case hIx=>rintro A B row ⟨h1,h3⟩ hg hr;have IP:=Dn h3;have k2:=UY h3 hg (λr e=>by rcases hr r e with rfl|h<;>simp at* <;>omega);exact⟨h1.grown hg (by omega) (λk e=>by rcases hr k e with rfl|h<;>simp at* <;>omega),k2.1⟩
 case h0=>
  refine⟨(((((Below.refl _ w).alloc (Ac _) _).alloc (by simp) _).alloc (by simp;omega) _).alloc (by simp;omega) _).alloc (by simp;omega) _,?_,?_,?_⟩;·exact Cx _ (Cx _ (Cx _ (Cx _ n1.1)))
  .exact Cx _ (Cx _ (Cx _ n2.1))
  .rw[JU _ (Cx _ (Cx _ n2.1)),JU _ (Cx _ n2.1),JU _ n2.1];exact n2.2
 case D_=>
  intro l J Jx W hW hJ hY hj;have kk:∀{k j:Nat} {v:Value},(((((w.alloc (.cells #[.int .i64 up] 3)).alloc (.cells #[.bool false] 4)).alloc (.cells #[.pointer (some ⟨ga,0,none⟩)] 38)).alloc (.cells #[.int .i64 x] 3)).alloc (.cells #[.bool true] 4)).cell? ⟨k,j,none⟩=some v->W.cell? ⟨k,j,none⟩=some v:=
   λ{k j v} h=>by rw[Cw (hW.block k (Dn h))];exact h
  have hs:aS (w.heap.size+1+1) (w.heap.size+1+1+1+1) ga gn off n cap cs W:=
   ⟨kk (Cx _ (Cx _ n3.1)),kk n5.1,kk (Cx _ (Cx _ (Cx _ c0))),λh k v h1 h2 h3 h4=>kk (Cx _ (Cx _ (Cx _ (Cx _ (Cx _ (hx h k v h1 h2 h3 h4))))))⟩
  refine aEf 4 l (w.heap.size+1+1+1) (w.heap.size+1+1) (w.heap.size+1+1+1+1) _ ga gn off n cap cs up J Jx hJ hY ?_ (by simp) NT hm W x hs (kk (Cx _ n4.1)) ?_ (n+1) b hcl hj;·rintro b (rfl|rfl|rfl|rfl)<;>simp<;>omega
  .have:W.frozen? ⟨w.heap.size+1+1+1,0,none⟩=_:=World.frozen?_of_block (hW.block (w.heap.size+1+1+1) (by simp));rw[this,JU _ n4.1];exact n4.2
 case hassign=>
  intro l y W K hK;have aJY:=Oper.semAt_some l;gi_wp2
  exact hK
 case US=>
  rintro l y W ⟨hb,Ql,HV,tn⟩;have aJY:=Oper.semAt_some l;gi_wp2
  .rename_i he;obtain rfl:y=up:=eq_of_beq he;exact⟨KeepsOthers.setCell _ _ _,⟨hb.setCell (Gg _) _,World.cell?_setCell_same _ _ _ HV⟩,rfl⟩
  .rename_i he;exact⟨KeepsOthers.refl _,Below.refl _ _,⟨hb,Ql,HV,tn⟩,λe=>by subst e;simp at he⟩
 case wM=>
  rintro D W rfl ⟨hb,Ql,HV,tn⟩ hK hD;gi_wp2
  have hK':=(KeepsOthers.setCell W ⟨w.heap.size+1,0,none⟩ (.bool false)).same D _ hK rfl;have hc5:=cell_kept (World.cell?_setCell_same W ⟨w.heap.size+1,0,none⟩ (.bool false) HV) (grownBy_putObj' _ D (.deferred none)) (λr e=>by cases e;exact⟨_,hK',rfl⟩);refine⟨by simp,.inl ⟨_,_,rfl,run_takeDeferred hK',?_⟩⟩;refine⟨.bool false,?_,rfl,(hb.setCell (Gg _) _).grown (grownBy_putObj' _ D _) (by have:=Dn HV;simp;omega) (λk e=>by cases e;simp at hD;omega)⟩;simp[results,Proofs.Tryz.f197,go_sem,hc5]
 case wN=>
  rintro D W rfl ⟨hb,HV⟩ hK hD;gi_wp2
  have hc5:=cell_kept HV (grownBy_putObj' _ D (.deferred none)) (λr e=>by cases e;exact⟨_,hK,rfl⟩);refine⟨by simp,.inl ⟨_,_,rfl,run_takeDeferred hK,?_⟩⟩;refine⟨.bool true,?_,rfl,hb.grown (grownBy_putObj' _ D _) (by have:=Dn HV;omega) (λk e=>by cases e;simp at hD;omega)⟩;simp[results,Proofs.Tryz.f197,go_sem,hc5]
set_option maxRecDepth 100000 in
set_option maxHeartbeats 2000000 in
theorem UZ(ga:Nat)(p:Option Addr)(n cap:Nat)(up x:Int)(w:World)(hc:w.cell? ⟨ga,0,none⟩=some (.slice p n cap))(ho:¬(1<=up/\up<=n/\1<=x/\x<=n)):
  Calls Proofs.Tryz.prog 197 #[.pointer (some ⟨ga,0,none⟩),.int .i64 up,.int .i64 x] w λe w'=>e= .returned (.bool false)/\Below w.heap.size w w':=by
 have c0:((w.alloc (.cells #[.int .i64 up] 3)).alloc (.cells #[.bool false] 4)).cell? ⟨ga,0,none⟩=some (.slice p n cap):=Cx _ (Cx _ hc);have n2:=KM (w.alloc (.cells #[.int .i64 up] 3)) (.bool false) 4;simp only[World.size_alloc] at n2;have hb:Below w.heap.size w ((w.alloc (.cells #[.int .i64 up] 3)).alloc (.cells #[.bool false] 4)):=((Below.refl _ w).alloc (Ac _) _).alloc (by simp) _;refine(callsIn_wide (n:=5)).1 ?_;refine callsIn_of_wp Proofs.Tryz.func197 rfl trivial ?_ rfl;simp only[Proofs.Tryz.ntmps197,B6,Bc,BT,Nat.reduceAdd,Nat.reduceSub,TH,TI,eC,Wn,BH,CB];by_cases h1:1<=up/\up<=n
 .have d1:decide (1<=up/\up<=n)=true:=AD h1;have d2:decide (1<=x/\x<=n)=false:=AA λh2=>ho ⟨h1.1,h1.2,h2.1,h2.2⟩;gi_wp2
  refine⟨trivial,(callsIn_wide.2 (Xq ga _ n cap up _ c0)).mono ?_⟩;rintro e w' ⟨rfl,rfl⟩;rw[d1];gi_wp2
  refine⟨trivial,(callsIn_wide.2 (Xq ga _ n cap x _ c0)).mono ?_⟩;rintro e w' ⟨rfl,rfl⟩;rw[d2];gi_wp2
  refine bodyPost_ret (v:= .bool false) ?_ rfl ⟨rfl,hb⟩;simp[results,Proofs.Tryz.f197,go_sem,n2.1]
 .have d1:decide (1<=up/\up<=n)=false:=AA h1;gi_wp2
  refine⟨trivial,(callsIn_wide.2 (Xq ga _ n cap up _ c0)).mono ?_⟩;rintro e w' ⟨rfl,rfl⟩;rw[d1];gi_wp2
  refine⟨trivial,?_⟩;gi_wp2
  refine bodyPost_ret (v:= .bool false) ?_ rfl ⟨rfl,hb⟩;simp[results,Proofs.Tryz.f197,go_sem,n2.1]
section
variable{h:Ae}
theorem Yu{cs:List Aa}{off:Nat}{x:Int}{k:Nat}{v:Int}(e:Ga cs off x k=some v):cs[off+(x.toNat-1)*13+k]?=some (.int .i64 v):=by
 unfold Ga at e;split at e;·rename_i hh;cases e;exact hh
 .cases e
theorem gy(n:Nat)(args:List Aa)(r:Aa)(h':Ae)(AU:IT.step (B5 cx) (IT.run (B5 cx) n) (Mf args) h=some (.ret,[r],h')):
  (∃fn c,cx.P.funcs[D7 197]?=some fn/\(fn.name== "runtime.NumGoroutine")=false/\fn.body=some c)/\
  ∀(γ:Gh) (w:World) (cargs:Array Value),Gs γ h w->(∀g cs,cx.Gj g=some cs->CI γ cs g 0)->A8 γ args cargs.toList->
   Calls cx.P (D7 197) cargs w λe w'=>match e with
    | .returned v=>∃γ',Gs γ' h' w'/\J1 γ w γ' w'/\BF γ' r v/\(cx.Ii 197=true->∃s c,HU γ' w.heap.size w' s c v r)
    |_=>False:=by
 refine⟨⟨_,_,Proofs.Tryz.func197,rfl,rfl⟩,λγ w cargs hi hg ha=>?_⟩;simp only[Mf,IT.step,Ep] at AU;cases e0:Me h args with
 |none=>simp[e0] at AU
 |some R0=>
 obtain⟨h1,r1⟩:=R0;simp only[e0] at AU;cases AU;have Hy:∀(b:Bool) (cs:Array Value),h'=h->r= .bool b->Calls Proofs.Tryz.prog 197 cs w (λe w'=>e= .returned (.bool b)/\Below w.heap.size w w')->
   Calls cx.P (D7 197) cs w λe w'=>match e with
    | .returned v=>∃γ',Gs γ' h' w'/\J1 γ w γ' w'/\BF γ' r v/\(cx.Ii 197=true->∃s c,HU γ' w.heap.size w' s c v r)
    |_=>False:=by
  rintro b cs rfl rfl hc;refine hc.mono λe w' he=>?_;obtain⟨rfl,hb⟩:=he;obtain⟨TR,Nv⟩:=hi.J5 hb;exact⟨γ,TR,Nv,rfl,λe=>by cases e⟩
 unfold Me at e0;split at e0
 .rename_i id up x;obtain⟨v0,us,uc,⟨g,hm,rfl⟩,v1,us1,rfl,rfl,v2,eJ,rfl,rfl,hnil⟩:=ha;cases hnil;have hcargs:cargs=#[.pointer (some ⟨g,0,none⟩),.int .i64 up,.int .i64 x]:=by apply Jf;simpa using uc
  subst hcargs;split at e0;·rename_i l hc;cases e0;obtain⟨_,y,hy,ry⟩:=hi.QK hc hm (j:=0) rfl;cases ry;exact Hy false _ rfl rfl (UZ g none 0 0 up x w hy (by omega))
  .rename_i nid off len l hc;split at e0
   .rename_i cs hcs;split at e0
    .rename_i hl;obtain⟨_,y,hy,gn,cap,uj,rfl,q1,⟨q2,q3⟩,q4⟩:=hi.QK hc hm (j:=0) rfl;have F_:g<w.heap.size:=Dn hy;have uv:gn<w.heap.size:=by obtain⟨⟨us,e,fr,p1,p2⟩,_⟩:=hi.sz gn _ q4;exact(A0.1 p1).1
     split at e0
     .rename_i hr;cases e1:KB cs off len up (len+1) x with
      |none=>simp[e1] at e0
      |some b=>simp only[e1,BR,BC,KS] at e0;obtain⟨rfl,rfl⟩:=e0;refine Hy b _ rfl rfl (E_ g gn off len cap cs up x w F_ uv q1 q3 hy (λt k v h1 h2 h3 h4=>?_) b e1 hr.1 hr.2.1 hr.2.2.1 hr.2.2.2);obtain⟨_,z,hz,rz⟩:=hi.QK hcs uj (Yu h4);cases rz;exact hz
     .rename_i hr;cases e0;exact Hy false _ rfl rfl (UZ g _ len cap up x w hy hr)
    .cases e0
   .cases e0
  .cases e0
 .cases e0
end
theorem Nl{T e:TypeId}{B b:Nat}{bs:List Value}{W W':World}(h:Lib.IsBuilder T e B b bs W)(hb:Below W.heap.size W W'):Lib.IsBuilder T e B b bs W':=by
 have key:∀p,Lib.BuilderAt T e B b p bs W->Lib.BuilderAt T e B b p bs W':=λp ⟨hB,v,ew,E2,hne⟩=>by refine⟨hB,v,(hb.block b (A0.1 ew).1).trans ew,?_,hne⟩;exact E2.kept (row:=none) ⟨hb.os,hb.tape,hb.output,hb.size,λk hk _=>hb.block k hk⟩ (Classical.em _)
 exact h.imp (key _) (key _)
theorem JD(a b:List UInt8):Lib.byteCells (a++b)=Lib.byteCells a++Lib.byteCells b:=by simp[Lib.byteCells]
theorem byteCells_length(a:List UInt8):(Lib.byteCells a).length=a.length:=by simp[Lib.byteCells]
theorem fZ(d:Nat):Lib.repeatL [32,32] d=List.replicate (2*d) 32:=by
 induction d with
 |zero=>rfl
 |succ d ih=>rw[Lib.repeatL,ih,show 2*(d+1)=2*d+1+1 by omega,List.replicate_succ,List.replicate_succ];rfl
theorem gA:∀a:Aa,a.Lp=true->a.still=true
 | .bool _,_=>rfl
 | .int _ _,_=>rfl
 | .str _,_=>rfl
 |a,h=>by cases a<;>first|rfl|simp[Aa.Lp] at h
theorem SR:∀l:List Aa,l.all Aa.Lp=true->IE l=true
 |[],_=>rfl
 |a::l,h=>by simp only[List.all_cons,BK] at h;simp only[IE,BK];exact⟨gA a h.1,SR l h.2⟩
section
variable{γ:Gh}{h:Ae}{w:World}
theorem aT(hi:Gs γ h w){id g:Nat}{cs:List Aa}(hc:h[id]?=some (.cells cs))(hm:γ.mu id=some g):∀(n o:Nat),o+n<=cs.length->Ly (Ck cs 1 o n)=true->
  (Ck cs 1 o n).length=n/\ER (FA w) (Ck cs 1 o n) 1 g o
 |0,o,_,_=>⟨rfl,trivial⟩
 |n+1,o,hl,hs=>by
  have hlt:o<cs.length:=by omega
  have e1:(cs.drop o).take 1=[cs[o]]:=by rw[AG hlt];rfl
  have TP:IE ((cs.drop o).take 1)=true/\Ly (Ck cs 1 (o+1) n)=true:=by simpa only[Ck,Ly,BK] using hs
  obtain⟨p,q⟩:=aT hi hc hm n (o+1) (by omega) TP.2;rw[e1] at TP;have hst:cs[o].still=true:=by simpa[IE] using TP.1
  obtain⟨u,hu,h1,hr⟩:=Mg hi hc hm (Af hlt);refine⟨by simp[Ck,p],?_⟩;simp only[Ck,e1];exact⟨rfl,⟨⟨u,RJ hu h1,BF.mem hi _ _ hst hr⟩,trivial⟩,q⟩
def Yv(w:World)(b o:Nat)(AZ:List (List Aa)):Prop:=
 ∃v,w.cell? ⟨b,o,none⟩=some v/\((v= .slice none 0 0/\AZ=[])\/
  (∃gk ko cap,v= .slice (some ⟨gk,ko,none⟩) AZ.length cap/\AZ.length<=cap/\cap<=maxLen/\gk<w.heap.size/\ER (FA w) AZ 1 gk ko))
theorem wO(hi:Gs γ h w){id g:Nat}(hm:γ.mu id=some g){x:Int}{h1:Ae}{r:Aa}(e:q7 h [.ptr (some (id,0)),.int .i64 x]=some (h1,r)):
  h1=h/\∃gn off n cap row c AZ,r= .tuple [.CA row,.int .i64 c,.sl 1 AZ]/\g<w.heap.size/\gn<w.heap.size/\w.cell? ⟨g,0,none⟩=some (.slice (some ⟨gn,off,none⟩) n cap)/\n<=cap/\cap<=maxLen/\
   1<=x/\x<=n/\CI (FA w) row gn (off+(x.toNat-1)*13)/\w.cell? ⟨gn,off+(x.toNat-1)*13+11,none⟩=some (.int .i64 c)/\Yv w gn (off+(x.toNat-1)*13+2) AZ:=by
 unfold q7 at e;split at e
 .rename_i Fa x' Ji;cases Ji;split at e
  .rename_i nid off n l hc;split at e
   .rename_i cs hcs;split at e
    .rename_i hx;split at e
     .rename_i c0 c1 c2 c3 c4 c5 c6 c7 c8 c9 Tm c um hrow;split at e
      .rename_i hst;simp only[IE,BK,NB] at hst;obtain⟨s0,s1,s3,s4,s5,s6,s7,s8,s9,s10,s12⟩:=hst;obtain⟨_,y,hy,gn,cap,uj,rfl,q1,⟨q2,q3⟩,q4⟩:=hi.QK hc hm (j:=0) rfl;have uv:gn<w.heap.size:=by obtain⟨⟨us,e,fr,p1,p2⟩,_⟩:=hi.sz gn _ q4;exact(A0.1 p1).1
       have get:∀(j:Nat) (a:Aa),j<13->[c0,c1,c2,c3,c4,c5,c6,c7,c8,c9,Tm,.int .i64 c,um][j]?=some a->cs[off+(x.toNat-1)*13+j]?=some a:=λj a hj ha=>by rw[<-hrow,C9 hj,Cz] at ha;exact ha
       have key:∀(j:Nat) (a:Aa),j<13->[c0,c1,c2,c3,c4,c5,c6,c7,c8,c9,Tm,.int .i64 c,um][j]?=some a->a.still=true->∃u,(FA w).HA gn (off+(x.toNat-1)*13+j)=some u/\BF (FA w) a u:=λj a hj ha hs=>by obtain⟨u,hu,ho,hr⟩:=Mg hi hcs uj (get j a hj ha);exact⟨u,RJ hu ho,BF.mem hi _ _ hs hr⟩
       have U0:w.cell? ⟨gn,off+(x.toNat-1)*13+11,none⟩=some (.int .i64 c):=by obtain⟨u,hu,_,hr⟩:=Mg hi hcs uj (get 11 _ (by omega) rfl);cases hr;exact hu
       obtain⟨u2,Il,Wf,K0⟩:=Mg hi hcs uj (get 2 c2 (by omega) rfl);have mk:∀(k2:Aa),(∃u,(FA w).HA gn (off+(x.toNat-1)*13+2)=some u/\BF (FA w) k2 u)->CI (FA w) [c0,c1,k2,c3,c4,c5,c6,c7,c8,c9,Tm,.int .i64 c,um] gn (off+(x.toNat-1)*13):=λk2 h2=>⟨key 0 c0 (by omega) rfl s0,key 1 c1 (by omega) rfl s1,h2,key 3 c3 (by omega) rfl s3,key 4 c4 (by omega) rfl s4,key 5 c5 (by omega) rfl s5,key 6 c6 (by omega) rfl s6,key 7 c7 (by omega) rfl s7,key 8 c8 (by omega) rfl s8,key 9 c9 (by omega) rfl s9,key 10 Tm (by omega) rfl s10,key 11 _ (by omega) rfl rfl,key 12 um (by omega) rfl s12,trivial⟩
       have hg:=Dn hy;split at e;·cases e;cases K0;exact⟨rfl,gn,off,n,cap,_,c,[],rfl,hg,uv,hy,q1,q3,hx.1,hx.2.1,mk _ ⟨_,RJ Il Wf,rfl⟩,U0,_,Il,.inl ⟨rfl,rfl⟩⟩
       .rename_i LA ko m;split at e
        .rename_i ks fo;split at e
         .rename_i hk;cases e;obtain⟨gk,capk,uw,rfl,r1,⟨r2,r3⟩,r4⟩:=K0;obtain⟨t1,t2⟩:=aT hi fo uw m ko (by omega) hk.2;have hgk:gk<w.heap.size:=by obtain⟨⟨us,e,fr,p1,p2⟩,_⟩:=hi.sz gk _ r4;exact(A0.1 p1).1
          refine⟨rfl,gn,off,n,cap,_,c,Ck ks 1 ko m,rfl,hg,uv,hy,q1,q3,hx.1,hx.2.1,mk _ ⟨_,RJ Il Wf,⟨gk,ko,none⟩,capk,by rw[t1],by rw[t1];exact r1,.inl rfl,t2⟩,U0,_,Il,.inr ⟨gk,ko,capk,by rw[t1],by rw[t1];exact r1,r3,hgk,t2⟩⟩
         .cases e
        .cases e
       .cases e
      .cases e
     .cases e
    .cases e
   .cases e
  .cases e
 .cases e
theorem gz{n:Nat}(hs:ED cx (IT.run (B5 cx) n))(hi:Gs γ h w)(hg:∀g cs,cx.Gj g=some cs->CI γ cs g 0){row:List Aa}{s:As}{h1:Ae}(e:IT.run (B5 cx) n (B5 cx 182 [.CA row]) []=some (.ret,[.str s],h1))
  {W:World} (hb:Below w.heap.size w W) {gn o:Nat} (hr:CI (FA w) row gn o):
  Calls Proofs.Tryz.prog 182 #[.pointer (some ⟨gn,o,none⟩)] W λe W'=>e= .returned (.string ⟨⟨s⟩⟩)/\Below W.heap.size W W':=by
 refine((hs.2 182 _ _ _ _ e).2 (FA W) W #[.pointer (some ⟨gn,o,none⟩)] (wF W) (λg cs t_=>CI.mono (aO hb) cs g 0 (CI.mem hi cs g 0 (SR cs (hs.1.1 g cs t_)) (hg g cs t_)))
  ⟨_,_,rfl,⟨gn,o,rfl,CI.mono (aO hb) row gn o hr⟩,rfl⟩).mono λe W' he=>?_
 cases e with
 |returned v=>obtain⟨γ',_,ha,hv,_⟩:=he;cases hv;exact⟨rfl,ha.os,ha.tape,ha.output,ha.size,λk hk=>(ha.MH k hk (λid=>by simp[FA])).1⟩
 |_=>exact he.elim
end
theorem g_{w:World}{b o:Nat}{AZ:List (List Aa)}(h:Yv w b o AZ):∃p cap,w.cell? ⟨b,o,none⟩=some (.slice p AZ.length cap)/\AZ.length<=cap/\cap<=maxLen/\
  ∀(i:Nat) (y:Int),AZ[i]?=some [.int .i64 y]->∃gk ko,p=some ⟨gk,ko,none⟩/\gk<w.heap.size/\w.cell? ⟨gk,ko+i,none⟩=some (.int .i64 y):=by
 obtain⟨v,hv,⟨rfl,rfl⟩|⟨gk,ko,cap,rfl,h1,h2,h3,h4⟩⟩:=h;·exact⟨none,0,hv,Ac _,by decide,λi y hi=>by simp at hi⟩
 .refine⟨_,cap,hv,h1,h2,λi y hi=>⟨gk,ko,rfl,h3,?_⟩⟩;obtain⟨_,⟨u,hu,hr⟩,_⟩:=ER.get h4 hi;cases hr;have:=hu;simp only[FA,Option.filter_eq_some_iff] at this;simpa using this.1
theorem aU(l:List UInt8):Lib.strCells ⟨l.toArray⟩=Lib.byteCells l:=by simp[Lib.strCells,Lib.byteCells]
theorem Yw(l:List UInt8):Lib.strCells ⟨⟨l⟩⟩=Lib.byteCells l:=by simp[Lib.strCells,Lib.byteCells]
theorem gB(i n:Nat)(h:i<n)(hn:n<=9223372036854775807):wrap64 ((i:Int)+1)=((i+1:Nat):Int):=by rw[Go.IntWalk.wrap64_in _ ⟨by omega,by omega⟩];omega
theorem Xr(d:Nat)(h:d<=1000):wrap64 ((d:Int)+1)=((d+1:Nat):Int):=by rw[Go.IntWalk.wrap64_in _ ⟨by omega,by omega⟩];omega
abbrev tU(g:Nat)(w0:World)(x:Int)(d:Nat)(Dw PR:As):Prop:=
 ∀(B b:Nat) (W:World),w0.heap.size<=B->B<=W.heap.size->Below w0.heap.size w0 W->Lib.IsBuilder 151 5 B b (Lib.byteCells Dw) W->
  Calls Proofs.Tryz.prog 95 #[.pointer (some ⟨g,0,none⟩),.pointer (some ⟨b,0,none⟩),.int .i64 x,.int .i64 d] W λe W'=>(∃v,e= .returned v)/\Lib.IsBuilder 151 5 B b (Lib.byteCells PR) W'/\Below B W W'
theorem rA{p:Prop}(h:p):Hid p:=h
theorem K5{w0 W':World}{k j:Nat}{v:Value}(hb:Below w0.heap.size w0 W')(h:w0.cell? ⟨k,j,none⟩=some v):W'.cell? ⟨k,j,none⟩=some v:=by rw[Cw (hb.block k (Dn h))];exact h
def gC:Code->Code
 | .seq _ c=>gC c
 | .block _ c=>c
 |c=>c
noncomputable def wQ:Code:=match Proofs.Tryz.f95.body with
 |some c=>gC c
 |none=> .skip
set_option maxRecDepth 100000 in
set_option maxHeartbeats 2000000 in
theorem wR{w0 W W6:World}{g B b d capk:Nat}{p:Option Addr}{AZ:List (List Aa)}(hB:w0.heap.size<=B)(hBW:B<=W.heap.size)(hb:Below w0.heap.size w0 W)(hd:d<=1000)
  (Wi:AZ.length<=capk) (dY:capk<=maxLen) (gx:∀(i:Nat) (y:Int),AZ[i]?=some [.int .i64 y]->∃gk ko,p=some ⟨gk,ko,none⟩/\gk<w0.heap.size/\w0.cell? ⟨gk,ko+i,none⟩=some (.int .i64 y))
  (f:Nat->As) (hf:∀i,i<AZ.length->∃y,AZ[i]?=some [.int .i64 y]/\tU g w0 y (d+1) (f i) (f (i+1))) (bb6:Below B W W6) (l6:Lib.IsBuilder 151 5 B b (Lib.byteCells (f 0)) W6)
  (z2 z4 z5 z6 z7 z8 z9 z10 z11 z12 z13 z14 z15 z16 z17 z18 z19 z20 z21 z22 z23 z24 z25 z26 z27 z28 z29 z30 z31 z32 z33 z34 z35 z36 z37 z38 z39 z40 z41 z42 z43 z44 z45 z49 z50 z51 z52 z53 z54 z55 z56 z57 z58:Value):
  wQ.wpIn Fence.wide 5 Proofs.Tryz.prog (Exit.inBlock 0<|bodyPost Proofs.Tryz.prog Proofs.Tryz.f95 λe W'=>(∃v,e= .returned v)/\Lib.IsBuilder 151 5 B b (Lib.byteCells (f AZ.length)) W'/\Below B W W')
   {tmps:=#[.pointer (some ⟨g,0,none⟩),.pointer (some ⟨b,0,none⟩),z2,.int .i64 d,z4,z5,z6,z7,z8,z9,z10,z11,z12,z13,z14,z15,z16,z17,z18,z19,z20,z21,z22,z23,z24,z25,z26,z27,z28,z29,z30,z31,z32,z33,z34,z35,z36,z37,z38,z39,z40,z41,z42,z43,z44,z45,.slice p AZ.length capk,.int .i64 AZ.length,.int .i64 0,z49,z50,z51,z52,z53,z54,z55,z56,z57,z58],defers:=[]} W6:=by
 simp only[wQ,gC,Proofs.Tryz.f95];gi_loopg [48] AZ.length (λk v wr=>∃i,i<=AZ.length/\k=AZ.length-i/\v= .int .i64 (i:Nat)/\Below B W wr/\Lib.IsBuilder 151 5 B b (Lib.byteCells (f i)) wr)
 case atStart=>exact⟨0,AO _,rfl,rfl,bb6,l6⟩
 case round=>
  obtain⟨i,hi,rfl,rfl,bbi,li⟩:=hrel;by_cases hlt:i<AZ.length
  .obtain⟨y,hy,ux⟩:=hf i hlt;obtain⟨gk,ko,rfl,hgk,IN⟩:=gx i y hy;have hbi:Below w0.heap.size w0 wr:=hb.trans (bbi.mono hB);have ci:=K5 hbi IN;have aQi:(i:Int)<(AZ.length:Int):=by exact_mod_cast hlt
   have hwi:=gB i _ hlt (Bt Wi dY);have hwd:=Xr d hd;have Ww:=ux B b _ hB (Bt hBW bbi.size) hbi li;clear ux hf gx Wi dY hbi li l6 bb6 IN hy hgk hB hBW hb;rw[show((d+1:Nat):Int)=(d:Int)+1 from rfl] at Ww;gi_wp2
   refine⟨trivial,(callsIn_wide.2 Ww).mono ?_⟩;rintro e W7 ⟨⟨v,rfl⟩,l7,b7⟩;gi_wp2
   gi_roundg (AZ.length-(i+1))
   case measure=>exact Nat.sub_lt_sub_left hlt (tN i)
   case rel=>refine⟨i+1,hlt,rfl,?_,bbi.trans b7,l7⟩;first|rfl|exact Ce (Value.int .i64) hwi
  .obtain rfl:i=AZ.length:=Nat.le_antisymm hi (Nat.le_of_not_lt hlt);gi_wp2
   go_end0
   exact⟨⟨_,rfl⟩,li,bbi⟩
set_option maxRecDepth 100000 in
set_option maxHeartbeats 2000000 in
theorem G_{w0:World}{g gn off n cap:Nat}{c x:Int}{AZ:List (List Aa)}(zf:g<w0.heap.size)(uv:gn<w0.heap.size)(hc:w0.cell? ⟨g,0,none⟩=some (.slice (some ⟨gn,off,none⟩) n cap))(NT:n<=cap)(hm:cap<=maxLen)
  (Nx:1<=x) (Yt:x<=n) (ZH:w0.cell? ⟨gn,off+(x.toNat-1)*13+11,none⟩=some (.int .i64 c)) (hk:Yv w0 gn (off+(x.toNat-1)*13+2) AZ)
  {d:Nat} (hd:d<=1000) {Dw acc2 s:As}
  (lH:∀W,Below w0.heap.size w0 W->Calls Proofs.Tryz.prog 182 #[.pointer (some ⟨gn,off+(x.toNat-1)*13,none⟩)] W λe W'=>e= .returned (.string ⟨⟨s⟩⟩)/\Below W.heap.size W W')
  (hlen:(Dw++List.replicate (2*d) 32++s++[10]).length<=AS)
  (lI:(c=0/\acc2=Dw++List.replicate (2*d) 32++s++[10])\/(c≠0/\tU g w0 c (d+1) (Dw++List.replicate (2*d) 32++s++[10]) acc2))
  (f:Nat->As) (dX:f 0=acc2) (hf:∀i,i<AZ.length->∃y,AZ[i]?=some [.int .i64 y]/\tU g w0 y (d+1) (f i) (f (i+1))):
  tU g w0 x d Dw (f AZ.length):=by
 intro B b W hB hBW hb hbl;obtain⟨p,capk,Uv,Wi,dY,gx⟩:=g_ hk;have ua:AS=140737488355328:=rfl;simp only[Aq,Iq,Bc,BT] at hlen;have m1:2*d<=140737488355328:=by rw[ua] at hlen;omega
 have m2:(Lib.byteCells Dw).length+(⟨(List.replicate (2*d) (32:UInt8)).toArray⟩:ByteArray).size<=140737488355328:=by rw[ua] at hlen;rw[byteCells_length];simp only[ByteArray.size,B6,Iq];omega
 have m3:(Lib.byteCells (Dw++List.replicate (2*d) 32)).length+(⟨⟨s⟩⟩:ByteArray).size<=140737488355328:=by rw[ua] at hlen;rw[byteCells_length];simp only[ByteArray.size,Aq,Iq];show _+s.length<=_;omega
 have m4:(Lib.byteCells (Dw++List.replicate (2*d) 32++s)).length+1<=140737488355328:=by rw[ua] at hlen;rw[byteCells_length];simp only[Aq,Iq];omega
 have m5:d<=9223372036854775807:=Bt hd (by decide);clear hlen ua;have Hline:=rA lH;have Hcont:=rA lI;have Hf:=rA hf;have Hk4:=rA gx;have Hk2:=rA Wi;have Hk3:=rA dY;clear lH lI hf gx hk Wi dY;refine(callsIn_wide (n:=5)).1 ?_;refine callsIn_of_wp Proofs.Tryz.func95 rfl trivial ?_ rfl;simp only[Proofs.Tryz.ntmps95,B6,Bc,BT,Nat.reduceAdd,Nat.reduceSub,TH,TI,eC,Wn,BH,CB];gi_wp2
 refine⟨trivial,(callsIn_wide.2 (aEd g gn off n cap x _ (K5 hb hc) Nx Yt NT hm)).mono ?_⟩;rintro e w' ⟨rfl,rfl⟩;gi_wp2
 refine⟨trivial,(callsIn_wide.2 (Proofs.Tryz.strings_Repeat ⟨#[32,32]⟩ d _ m5 m1)).mono ?_⟩;rintro e W1 ⟨rfl,b1⟩;have Tl:Below w0.heap.size w0 W1:=hb.trans (b1.mono hb.size);have bb1:Below B W W1:=b1.mono hBW;have l1:=Nl hbl b1;have hr:(Lib.repeatL (⟨#[32,32]⟩:ByteArray).data.toList d)=List.replicate (2*d) 32:=fZ d;rw[hr];gi_wp2
 refine⟨trivial,(callsIn_wide.2 (Proofs.Tryz.Builder_WriteString B b (Lib.byteCells Dw) _ _ l1 m2 (Bt hBW bb1.size))).mono ?_⟩;rintro e W2 ⟨rfl,l2,b2⟩;rw[aU,<-JD] at l2;have bb2:=bb1.trans b2;have MC:Below w0.heap.size w0 W2:=Tl.trans (b2.mono hB);gi_wp2
 refine⟨trivial,(callsIn_wide.2 (Hline.out _ MC)).mono ?_⟩;rintro e W3 ⟨rfl,b3⟩;have tV:Below w0.heap.size w0 W3:=MC.trans (b3.mono MC.size);have bb3:Below B W W3:=bb2.trans (b3.mono (Bt hBW bb2.size));have l3:=Nl (.inr l2) b3;gi_wp2
 refine⟨trivial,(callsIn_wide.2 (Proofs.Tryz.Builder_WriteString B b _ _ _ l3 m3 (Bt hBW bb3.size))).mono ?_⟩;rintro e W4 ⟨rfl,l4,b4⟩;rw[Yw,<-JD] at l4;have bb4:=bb3.trans b4;have hb4:Below w0.heap.size w0 W4:=tV.trans (b4.mono hB);gi_wp2
 refine⟨trivial,(callsIn_wide.2 (Proofs.Tryz.Builder_WriteByte B b _ 10 _ (.inr l4) m4 (Bt hBW bb4.size))).mono ?_⟩;rintro e W5 ⟨rfl,l5,b5⟩;have e10:Lib.byteCells (Dw++List.replicate (2*d) 32++s)++[Value.int .u8 10]=Lib.byteCells (Dw++List.replicate (2*d) 32++s++[10]):=by rw[JD (Dw++List.replicate (2*d) 32++s) [10]];rfl
 replace l5:=e10▸l5;have bb5:=bb4.trans b5;have hb5:Below w0.heap.size w0 W5:=hb4.trans (b5.mono hB);have c5:=K5 hb5 ZH;clear NT hm Nx Yt hc m1 m2 m3 m4 m5 l1 l3 l4 l2;rcases Hcont.out with⟨rfl,rfl⟩|⟨H_,wS⟩
 .have bb6:=bb5;have l6:Lib.IsBuilder 151 5 B b (Lib.byteCells (f 0)) W5:=by rw[dX];exact .inr l5
  have ck:=K5 hb5 Uv;gi_wp2
  exact wR hB hBW hb hd Hk2.out Hk3.out Hk4.out f Hf.out bb6 l6 _ _ _ _ _ _ _ _ _ _ _ _ _ _ _ _ _ _ _ _ _ _ _ _ _ _ _ _ _ _ _ _ _ _ _ _ _ _ _ _ _ _ _ _ _ _ _ _ _ _ _ _ _
 .have hne:(c != 0)=true:=by simp[H_]
  have hwd:=Xr d hd;have aEh:=wS B b _ hB (Bt hBW bb5.size) hb5 (.inr l5);rw[show((d+1:Nat):Int)=(d:Int)+1 from rfl] at aEh;gi_wp2
  refine⟨trivial,(callsIn_wide.2 aEh).mono ?_⟩;rintro e W6 ⟨⟨v,rfl⟩,l6',b6⟩;have bb6:=bb5.trans b6;have hb6:Below w0.heap.size w0 W6:=hb5.trans (b6.mono hB);have l6:Lib.IsBuilder 151 5 B b (Lib.byteCells (f 0)) W6:=by rw[dX];exact l6'
  have ck:=K5 hb6 Uv;gi_wp2
  exact wR hB hBW hb hd Hk2.out Hk3.out Hk4.out f Hf.out bb6 l6 _ _ _ _ _ _ _ _ _ _ _ _ _ _ _ _ _ _ _ _ _ _ _ _ _ _ _ _ _ _ _ _ _ _ _ _ _ _ _ _ _ _ _ _ _ _ _ _ _ _ _ _ _
section
variable{γ:Gh}{h:Ae}{w0:World}
abbrev I_(fuel d:Nat)(a:Aa):List Aa->(As->IT)->As->IT:=λLA K Dw=>match LA with
 |[.int .i64 y]=>GY 182 a fuel y (d+1) Dw K
 |_=> .fail
theorem aV{run:IT->Ae->Option Jn}{g fuel d:Nat}{a:Aa}(ih:∀(x:Int) (Dw:As) (k:As->IT) (res:Jn),IT.step (B5 cx) run (GY 182 a fuel x (d+1) Dw k) h=some res->∃PR,IT.step (B5 cx) run (k PR) h=some res/\tU g w0 x (d+1) Dw PR):
  ∀(AZ:List (List Aa)) (Dw:As) (k:As->IT) (res:Jn),IT.step (B5 cx) run (AZ.foldr (I_ fuel d a) k Dw) h=some res->
   ∃f:Nat->As,f 0=Dw/\IT.step (B5 cx) run (k (f AZ.length)) h=some res/\∀i,i<AZ.length->∃y,AZ[i]?=some [.int .i64 y]/\tU g w0 y (d+1) (f i) (f (i+1))
 |[],Dw,k,res,e=>⟨λ_=>Dw,rfl,e,λi hi=>by simp at hi⟩
 |LA::AZ,Dw,k,res,e=>by
  simp only[List.foldr_cons] at e;unfold I_ at e;split at e
  .rename_i y;obtain⟨acc1,e1,c1⟩:=ih _ _ _ _ e;obtain⟨f,f0,f1,f2⟩:=aV ih AZ acc1 k res e1;refine⟨λ|0=>Dw|i+1=>f i,rfl,f1,λi hi=>?_⟩;cases i with
   |zero=>
    have hc:tU g w0 y (d+1) Dw (f 0):=by rw[f0];exact c1
    exact⟨y,rfl,hc⟩
   |succ i=>obtain⟨y',p,q⟩:=f2 i (by simpa using hi);exact⟨y',by simpa using p,q⟩
  .cases e
theorem wT{run:IT->Ae->Option Jn}{a:Aa}{x:Int}{d:Nat}{Dw:As}{k:As->IT}{res:Jn}(fuel:Nat)(e:IT.step (B5 cx) run (GY 182 a fuel x d Dw k) h=some res):∃id,a= .ptr (some (id,0)):=by
 cases fuel with
 |zero=>simp[GY,IT.step] at e
 |succ fuel=>
  simp only[GY,IT.step,Ep] at e;cases e0:q7 h [a,.int .i64 x] with
  |none=>simp[e0] at e
  |some R0=>
   unfold q7 at e0;split at e0;·rename_i id x' Ji;cases Ji;exact⟨id,rfl⟩
   .cases e0
theorem aW{n:Nat}(hs:ED cx (IT.run (B5 cx) n))(hi:Gs γ h w0)(hg:∀g cs,cx.Gj g=some cs->CI γ cs g 0){id g:Nat}(hm:γ.mu id=some g):
  ∀(fuel:Nat) (x:Int) (d:Nat) (Dw:As) (k:As->IT) (res:Jn),d+fuel<=1000->IT.step (B5 cx) (IT.run (B5 cx) n) (GY 182 (.ptr (some (id,0))) fuel x d Dw k) h=some res->
   ∃PR,IT.step (B5 cx) (IT.run (B5 cx) n) (k PR) h=some res/\tU g w0 x d Dw PR/\∃p cap ln,w0.cell? ⟨g,0,none⟩=some (.slice p ln cap)/\1<=x/\x<=ln
 |0,x,d,Dw,k,res,_,e=>by simp[GY,IT.step] at e
 |fuel+1,x,d,Dw,k,res,hd,e=>by
  simp only[GY,IT.step,Ep] at e;cases e0:q7 h [.ptr (some (id,0)),.int .i64 x] with
  |none=>simp[e0] at e
  |some R0=>
  obtain⟨h1,r⟩:=R0;simp only[e0] at e;obtain⟨hh,gn,off,nn,cap,row,c,AZ,rfl,zf,uv,hc,NT,aX,Nx,Yt,hrow,ZH,hk⟩:=wO hi hm e0;simp only[IT.step] at e;rw[hh] at e;clear hh;cases e1:IT.run (B5 cx) n (B5 cx 182 [.CA row]) [] with
  |none=>simp[e1] at e
  |some R1=>
  simp only[e1] at e;split at e
  .rename_i r1 tr Ji;cases Ji;split at e
   .split at e
    .rename_i s GI;split at e
     .rename_i hlen;have ih:∀(x:Int) (Dw:As) (k:As->IT) (res:Jn),IT.step (B5 cx) (IT.run (B5 cx) n) (GY 182 (.ptr (some (id,0))) fuel x (d+1) Dw k) h=some res->∃PR,IT.step (B5 cx) (IT.run (B5 cx) n) (k PR) h=some res/\tU g w0 x (d+1) Dw PR:=λx Dw k res e=>by obtain⟨PR,p,q,_⟩:=aW hs hi hg hm fuel x (d+1) Dw k res (by omega) e;exact⟨PR,p,q⟩
      have lH:∀W,Below w0.heap.size w0 W->Calls Proofs.Tryz.prog 182 #[.pointer (some ⟨gn,off+(x.toNat-1)*13,none⟩)] W λe W'=>e= .returned (.string ⟨⟨s⟩⟩)/\Below W.heap.size W W':=
       λW hb=>gz hs hi hg e1 hb hrow
      have Hy:∀acc2,((c=0/\acc2=Dw++List.replicate (2*d) 32++s++[10])\/(c≠0/\tU g w0 c (d+1) (Dw++List.replicate (2*d) 32++s++[10]) acc2))->
        IT.step (B5 cx) (IT.run (B5 cx) n) (AZ.foldr (I_ fuel d (.ptr (some (id,0)))) k acc2) h=some res->∃PR,IT.step (B5 cx) (IT.run (B5 cx) n) (k PR) h=some res/\tU g w0 x d Dw PR/\∃p cap ln,w0.cell? ⟨g,0,none⟩=some (.slice p ln cap)/\1<=x/\x<=ln:=by
       intro acc2 lI e2;obtain⟨f,f0,f1,f2⟩:=aV ih AZ acc2 k res e2;exact⟨f AZ.length,f1,G_ zf uv hc NT aX Nx Yt ZH hk (by omega) lH hlen lI f f0 f2,_,_,_,hc,Nx,Yt⟩
      split at e;·rename_i H_;exact Hy _ (.inl ⟨H_,rfl⟩) e
      .rename_i H_;obtain⟨acc2,p,q⟩:=ih _ _ _ _ e;exact Hy acc2 (.inr ⟨H_,q⟩) p
     .cases e
    .cases e
   .cases e
  .cases e
end
set_option maxRecDepth 100000 in
set_option maxHeartbeats 2000000 in
theorem J_{w0:World}{g ln cap:Nat}{p:Option Addr}{x:Int}{s:As}(zf:g<w0.heap.size)(hc:w0.cell? ⟨g,0,none⟩=some (.slice p ln cap))(Nx:1<=x)(Yt:x<=ln)(wS:tU g w0 x 0 [] s):
  Calls Proofs.Tryz.prog 34 #[.pointer (some ⟨g,0,none⟩),.int .i64 x] w0 λe w'=>e= .returned (.string ⟨⟨s⟩⟩)/\Below w0.heap.size w0 w':=by
 have d1:decide (1<=x/\x<=ln)=true:=AD ⟨Nx,Yt⟩;have aJ3:(w0.alloc (.cells #[.pointer none,.slice none 0 0] 151)).heap[w0.heap.size]?=some (.cells #[.pointer none,.slice none 0 0] 151 (0,0)):=World.alloc_heap_new w0 _;have Tl:Below w0.heap.size w0 (w0.alloc (.cells #[.pointer none,.slice none 0 0] 151)):=(Below.refl _ w0).alloc (Ac _) _;have l1:Lib.IsBuilder 151 5 w0.heap.size w0.heap.size (Lib.byteCells []) (w0.alloc (.cells #[.pointer none,.slice none 0 0] 151)):=
  .inl ⟨Ac _,.slice none 0 0,aJ3,World.ownsRow_nil _ _ _ _,by simp[Value.ownBlock]⟩
 have Ww:=wS w0.heap.size w0.heap.size _ (Ac _) (by simp) Tl l1;rw[show((0:Nat):Int)=0 from rfl] at Ww;refine(callsIn_wide (n:=5)).1 ?_;refine callsIn_of_wp Proofs.Tryz.func34 rfl trivial ?_ rfl;simp only[Proofs.Tryz.ntmps34,B6,Bc,BT,Nat.reduceAdd,Nat.reduceSub,TH,TI,eC,Wn,BH,CB];gi_wp2
 refine⟨trivial,(callsIn_wide.2 (Xq g _ ln cap x _ hc)).mono ?_⟩;rintro e w' ⟨rfl,rfl⟩;rw[d1];gi_wp2
 refine⟨trivial,(callsIn_wide.2 Ww).mono ?_⟩;rintro e W2 ⟨⟨v,rfl⟩,l2,b2⟩;gi_wp2
 refine⟨trivial,(callsIn_wide.2 (Proofs.Tryz.Builder_String_any w0.heap.size w0.heap.size s _ l2 (by have:=b2.size;have:=Tl.size;omega))).mono ?_⟩;rintro e W3 ⟨rfl,b3⟩;gi_wp2
 refine bodyPost_ret (results_tmp rfl _ _ _) rfl ?_;exact⟨rfl,(Tl.trans b2).trans b3⟩
theorem K_{h:Ae}(n:Nat)(hs:ED cx (IT.run (B5 cx) n))(args:List Aa)(r:Aa)(h':Ae)(AU:IT.step (B5 cx) (IT.run (B5 cx) n) (lC 182 args) h=some (.ret,[r],h')):
  (∃fn c,cx.P.funcs[D7 34]?=some fn/\(fn.name== "runtime.NumGoroutine")=false/\fn.body=some c)/\
  ∀(γ:Gh) (w:World) (cargs:Array Value),Gs γ h w->(∀g cs,cx.Gj g=some cs->CI γ cs g 0)->A8 γ args cargs.toList->
   Calls cx.P (D7 34) cargs w λe w'=>match e with
    | .returned v=>∃γ',Gs γ' h' w'/\J1 γ w γ' w'/\BF γ' r v/\(cx.Ii 34=true->∃s c,HU γ' w.heap.size w' s c v r)
    |_=>False:=by
 refine⟨⟨_,_,Proofs.Tryz.func34,rfl,rfl⟩,λγ w cargs hi hg ha=>?_⟩;have aJ4:∃id x,args=[.ptr (some (id,0)),.int .i64 x]:=by
  unfold lC at AU;split at AU;·rename_i a x;obtain⟨id,rfl⟩:=wT _ AU;exact⟨id,x,rfl⟩
  .cases AU
 obtain⟨id,x,rfl⟩:=aJ4;obtain⟨v0,us,uc,⟨g,hm,rfl⟩,v1,us1,rfl,rfl,hnil⟩:=ha;cases hnil;have hcargs:cargs=#[.pointer (some ⟨g,0,none⟩),.int .i64 x]:=by apply Jf;simpa using uc
 subst hcargs;simp only[lC] at AU;obtain⟨Dw,e1,wS,p,cap,ln,hc,Nx,Yt⟩:=aW hs hi hg hm 100 x 0 [] _ _ (by omega) AU;cases e1;refine(J_ (Dn hc) hc Nx Yt wS).mono λe w' he=>?_;obtain⟨rfl,hb⟩:=he;obtain⟨TR,Nv⟩:=hi.J5 hb;exact⟨γ,TR,Nv,rfl,λe=>by cases e⟩
end Go.Am
end
section
namespace Go.Am
open Go
theorem h_:Yj cx:=by
 refine⟨λf hf=>?_,λf p hp n hs args h r h' AU=>?_⟩
 .simp only[cx,aDY] at hf;split at hf;·exact q9
  .cases hf
 .simp only[cx,uo] at hp;split at hp;·cases hp;exact K_ n hs args r h' AU
  .cases hp;exact zw n args r h' AU
  .cases hp;exact gy n args r h' AU
  .cases hp;exact gw n hs args r h' AU
  .cases hp
end Go.Am
end
