/- Lemmas -/
import Derived.Test.YtbnogamdhadfcaaGreatDoorT16
import Derived.RangeFuncBox
import Derived.OwnWalkIn
import Derived.TacticsInMore
import Derived.LoopNIn
import Derived.Sort.LoopGhostIn
set_option linter.unusedVariables false
set_option linter.unusedSimpArgs false
section
namespace Go.Am
open Go Go.RowKit Go.Shelf
theorem Xs(ga:Nat)(p:Option Addr)(n cap:Nat)(x:Int)(w:World)(hc:w.cell? ⟨ga,0,none⟩=some (.slice p n cap)):
  Calls Proofs.Tryz.prog 94 #[.pointer (some ⟨ga,0,none⟩),.int .i64 x] w λe w'=>e= .returned (.bool (decide (1<=x/\x<=n)))/\w=w':=by
 go_enter Proofs.Tryz.func94,Proofs.Tryz.ntmps94
 go_wp2
 all_goals refine bodyPost_ret (results_tmp rfl _ _ _) rfl ?_
 all_goals simp_all
 all_goals omega
theorem aD8(ga gn off n cap:Nat)(x:Int)(w:World)(hc:w.cell? ⟨ga,0,none⟩=some (.slice (some ⟨gn,off,none⟩) n cap))(h1:1<=x)(h2:x<=n)(NW:n<=cap)(hm:cap<=maxLen):
  Calls Proofs.Tryz.prog 43 #[.pointer (some ⟨ga,0,none⟩),.int .i64 x] w λe w'=>e= .returned (.pointer (some ⟨gn,off+(x.toNat-1)*13,none⟩))/\w=w':=by
 have hb:maxLen<=9223372036854775807:=by decide
 have hw:wrap64 (x-1)=x-1:=Go.IntWalk.wrap64_in _ ⟨by omega,by omega⟩;go_enter Proofs.Tryz.func43,Proofs.Tryz.ntmps43
 go_wp2
 all_goals refine bodyPost_ret (results_tmp rfl _ _ _) rfl ?_
 all_goals exact⟨rfl,rfl⟩
theorem aD9(ga:Nat)(x:Int)(w:World):
  Calls Proofs.Tryz.prog 264 #[.pointer (some ⟨ga,0,none⟩),.int .i64 x,.bool true] w λe w'=>e= .returned (.func (.func 302) #[] #[.pointer (some ⟨w.heap.size+1,0,none⟩),.pointer (some ⟨w.heap.size,0,none⟩),.pointer (some ⟨w.heap.size+1+1,0,none⟩)])/\
   w'=((w.alloc (.cells #[.pointer (some ⟨ga,0,none⟩)] 38)).alloc (.cells #[.int .i64 x] 3)).alloc (.cells #[.bool true] 4):=by
 have hmf:∀(fn:Fn) (first cap:Array Value) (w:World),(Instr.makeFunc fn first cap).run Proofs.Tryz.prog w= .ok (.func fn first cap) w:=λ_ _ _ _=>rfl;go_enter Proofs.Tryz.func264,Proofs.Tryz.ntmps264
 go_wp2
 go_ret
 exact⟨rfl,rfl⟩
theorem fS{cs:List Aa}{off n:Nat}{up:Int}{k:Nat}{b:Bool}(h:KC cs off n up k 0=some b):b=false:=by cases k<;>simp[KC] at h<;>exact h
theorem fU{cs:List Aa}{off n:Nat}{up x:Int}{k:Nat}{b:Bool}(h:KC cs off n up k x=some b)(hx:x≠0):∃k',k=k'+1/\
  ((x=up/\b=true)\/(x≠up/\1<=x/\x<=n/\∃p q,Ga cs off x 1=some p/\Ga cs off x 12=some q/\KC cs off n up k' (if p=0 then q else p)=some b)):=by
 cases k with
 |zero=>
  rw[KC] at h;· cases h
  .exact λe=>hx e
 |succ k=>
  refine⟨k,rfl,?_⟩;rw[KC] at h
  .split at h;·rename_i e;cases h;exact .inl ⟨e,rfl⟩
   .rename_i e;split at h
    .rename_i hr;split at h;·rename_i p q e1 e2;exact .inr ⟨e,hr.1,hr.2,p,q,e1,e2,h⟩
     .cases h
    .cases h
  .exact λe=>hx e
structure aS(Ba Bo ga gn off n cap:Nat)(cs:List Aa)(W:World):Prop where
 a:W.cell? ⟨Ba,0,none⟩=some (.pointer (some ⟨ga,0,none⟩))
 o:W.cell? ⟨Bo,0,none⟩=some (.bool true)
 c:W.cell? ⟨ga,0,none⟩=some (.slice (some ⟨gn,off,none⟩) n cap)
 x:∀(h:Int) (k:Nat) (v:Int),1<=h->h<=n->(k=1\/k=12)->Ga cs off h k=some v->W.cell? ⟨gn,off+(h.toNat-1)*13+k,none⟩=some (.int .i64 v)
theorem aS.MK{Ba Bo ga gn off n cap:Nat}{cs:List Aa}{A B:World}(h:aS Ba Bo ga gn off n cap cs A)(hk:∀b,b=Ba\/b=Bo\/b=ga\/b=gn->B.heap[b]?=A.heap[b]?):aS Ba Bo ga gn off n cap cs B:=
 ⟨by rw[Cw (hk _ (by simp))];exact h.a,by rw[Cw (hk _ (by simp))];exact h.o,by rw[Cw (hk _ (by simp))];exact h.c,
  λx k v h1 h2 h3 h4=>by rw[Cw (hk _ (by simp))];exact h.x x k v h1 h2 h3 h4⟩
theorem lF{Ba Bo ga gn off n cap Bh:Nat}{cs:List Aa}{A:World}{u:Value}{J:World->Prop}(hJ:∀A B row,J A->A.grownBy B row->(∀r,row=some r->r=Bh)->J B)
  (hd:∀b,b=Ba\/b=Bo\/b=ga\/b=gn->b≠Bh) (hs:aS Ba Bo ga gn off n cap cs A) (hc:A.cell? ⟨Bh,0,none⟩=some u) (hf:A.frozen? ⟨Bh,0,none⟩=false) (hj:J A) (v:Value):
  aS Ba Bo ga gn off n cap cs (A.setCell ⟨Bh,0,none⟩ v)/\(A.setCell ⟨Bh,0,none⟩ v).cell? ⟨Bh,0,none⟩=some v/\(A.setCell ⟨Bh,0,none⟩ v).frozen? ⟨Bh,0,none⟩=false/\J (A.setCell ⟨Bh,0,none⟩ v):=
 ⟨hs.MK λb hb=>Below.heap_setCell _ _ _ b (hd b hb),World.cell?_setCell_same _ _ _ hc,by rw[World.frozen?_setCell];exact hf,hJ _ _ _ hj (grownBy_setCell' A Bh v) λr e=>by cases e;rfl⟩
set_option maxRecDepth 100000 in
set_option maxHeartbeats 1600000 in
theorem aEa(m l Bh Ba Bo n₁ ga gn off n cap:Nat)(cs:List Aa)(up:Int)(J Jx:World->Prop)
  (hJ:∀A B row,J A->A.grownBy B row->(∀r,row=some r->r=Bh)->J B)
  (hY:∀x W,J W->YieldAt Fence.wide (m-1) Proofs.Tryz.prog l #[.int .i64 x] W λe W'=>(e= .returned (.bool true)/\J W'/\Below n₁ W W'/\x≠up)\/(e= .returned (.bool false)/\Jx W'/\x=up))
  (hd:∀b,b=Ba\/b=Bo\/b=ga\/b=gn->b<n₁/\b≠Bh) (hBh:Bh<n₁) (NW:n<=cap) (hm:cap<=maxLen)
  (W:World) (x0:Int) (hs:aS Ba Bo ga gn off n cap cs W) (hh:W.cell? ⟨Bh,0,none⟩=some (.int .i64 x0)) (hf:W.frozen? ⟨Bh,0,none⟩=false)
  (fuel:Nat) (b:Bool) (hcl:KC cs off n up fuel x0=some b) (h0:J W):
  CallsIn Fence.wide m Proofs.Tryz.prog 302 #[.func (.yield l) #[] #[],.pointer (some ⟨Bh,0,none⟩),.pointer (some ⟨Ba,0,none⟩),.pointer (some ⟨Bo,0,none⟩)] W λe W'=>(∃v,e= .returned v)/\((b=false/\J W')\/(b=true/\Jx W')):=by
 refine callsIn_of_wp Proofs.Tryz.func302 rfl trivial ?_ rfl;simp only[Proofs.Tryz.ntmps302,B7,Bf,BU,Nat.reduceAdd,Nat.reduceSub,TJ,TK,dZ,Wp,BD,CC];gi_wp2
 gi_loopg [] fuel (λk wr=>∃x,KC cs off n up k x=some b/\aS Ba Bo ga gn off n cap cs wr/\wr.cell? ⟨Bh,0,none⟩=some (.int .i64 x)/\wr.frozen? ⟨Bh,0,none⟩=false/\J wr)
 case atStart=>exact⟨x0,hcl,hs,hh,hf,h0⟩
 case round=>
  obtain⟨x,hcl,hs,hh,hf,hj⟩:=hrel;by_cases hx:x=0
  .subst hx;have:=fS hcl;subst this;gi_wp2
   refine⟨nofun,?_⟩;gi_wp2
   go_end0
   exact⟨⟨_,rfl⟩,hj⟩
  .obtain⟨k',rfl,Ij⟩:=fU hcl hx;have hne:(x != 0)=true:=by simp[hx]
   obtain⟨fn,tmps,assign,body,hy,hR⟩:=hY x wr hj;gi_wp2
   refine⟨nofun,?_⟩;refine hR.mono ?_;rintro e W3 (⟨rfl,hJ3,dW,uv⟩|⟨rfl,hJx3,uv⟩)
   .rcases Ij with⟨rfl,_⟩|⟨_,h1,h2,p,q,e1,e2,zx⟩
    .exact absurd rfl uv
    have zy:=hs.MK λb hb=>dW.block b (hd b hb).1;have hh3:W3.cell? ⟨Bh,0,none⟩=some (.int .i64 x):=by rw[Cw (dW.block Bh hBh)];exact hh
    have hf3:W3.frozen? ⟨Bh,0,none⟩=false:=by rw[<-hf];simp only[World.frozen?,dW.block Bh hBh]
    have hp:=zy.x x 1 p h1 h2 (.inl rfl) e1;have hq:=zy.x x 12 q h1 h2 (.inr rfl) e2;have ca3:=zy.a;have co3:=zy.o;have nBo:¬Bo=Bh:=(hd Bo (by simp)).2;have ngn:¬gn=Bh:=(hd gn (by simp)).2;gi_wp2
    refine⟨trivial,nofun,(callsIn_wide.2 (aD8 ga gn off n cap x _ zy.c h1 h2 NW hm)).mono ?_⟩;rintro e w' ⟨rfl,rfl⟩;obtain⟨s4,c4,z4,j4⟩:=lF hJ (λb hb=>(hd b hb).2) zy hh3 hf3 hJ3 (.int .i64 p);by_cases hp0:p=0
    .subst hp0;obtain⟨s5,c5,z5,j5⟩:=lF hJ (λb hb=>(hd b hb).2) s4 c4 z4 j4 (.int .i64 q);gi_wp2
     gi_roundg k'
     case measure=>omega
     case rel=>exact⟨q,zx,s5,c5,z5,j5⟩
    .have yy:(p==0)=false:=by simp[hp0]
     gi_wp2
     gi_roundg k'
     case measure=>omega
     case rel=>exact⟨p,by rw[if_neg hp0] at zx;exact zx,s4,c4,z4,j4⟩
   .rcases Ij with⟨_,rfl⟩|⟨aJL,_⟩
    .gi_wp2
     go_end0
     exact⟨⟨_,rfl⟩,hJx3⟩
    .exact absurd uv aJL
def z_(n₁:Nat)(up:Int)(I Ix:World->Prop)(x:Int)(W:World):Exit->Act->World->Prop
 | .normal,_,W'=>KeepsOthers W W'/\Below n₁ W W'/\I W'/\x≠up
 | .ret,_,W'=>KeepsOthers W W'/\Ix W'/\x=up
 | .exit _,_,_=>False
 | .goto _,_,_=>False
 | .panic _,_,_=>False
 | .outgrown,_,_=>False
theorem Yu{P:Program}{n gf:Nat}{lb:Array Value}{g:Operand}{ps:Array Tmp}{assign body:Code}{Q:Exit->Act->World->Prop}{a:Act}{w:World}(Bh:Nat)(b:Bool)(up:Int)
  (hg:a.eval g= .func (.func gf) #[] lb) (eg:∀args w,(callFunc gf args).run P w= .ok (.enter gf args) w) (hBh:Bh<w.heap.size)
  (A_:∀(l:Nat) (J Jx:World->Prop) (W:World),Below w.heap.size w W->(∀A B row,J A->A.grownBy B row->(∀r,row=some r->r=Bh)->J B)->
   (∀x W1,J W1->YieldAt Fence.wide (n-1 -1) P l #[.int .i64 x] W1 λe W'=>(e= .returned (.bool true)/\J W'/\Below w.heap.size W1 W'/\x≠up)\/(e= .returned (.bool false)/\Jx W'/\x=up))->J W->
   CallsIn Fence.wide (n-1) P gf (#[.func (.yield l) #[] #[]]++lb) W λe W'=>(∃v,e= .returned v)/\((b=false/\J W')\/(b=true/\Jx W')))
  (gd:ps.size=1) (I Ix:World->Prop) (hI:∀A B row,I A->A.grownBy B row->(∀r,row=some r->r=Bh\/w.heap.size<=r)->I B)
  (hIx:∀A B row,Ix A->A.grownBy B row->(∀r,row=some r->r=Bh\/w.heap.size<=r)->Ix B) (h0:I w) (a₁:Int->Act)
  (hassign:∀(l:Nat) (x:Int) (W:World) (K:Act->World->Prop),K (a₁ x) W->
   assign.wpIn (Fence.wide.inRound l) (n-1 -1) P (Exit.then K (λ_ _ _=>False)) {tmps:=(ps.zip #[.int .i64 x]).foldl (λt (p,v)=>t.setIfInBounds p v) a.tmps,defers:=[]} W)
  (UT:∀(l:Nat) (x:Int) (W:World),I W->body.wpIn (Fence.wide.inRound l) (n-1 -1) P (z_ w.heap.size up I Ix x W) (a₁ x) W)
  (wN:∀(D:Nat) (W:World),b=false->I W->W.heap[D]?=some (.deferred (some []))->w.heap.size<=D->Q .normal {a with defers:={target:= .collected D,args:=#[]}::a.defers} W)
  (wO:∀(D:Nat) (W:World),b=true->Ix W->W.heap[D]?=some (.deferred (some []))->w.heap.size<=D->Code.ret.wpIn Fence.wide n P Q {a with defers:={target:= .collected D,args:=#[]}::a.defers} W):
  (Code.rangeFunc g ps assign body).wpIn Fence.wide n P Q a w:=by
 refine wpIn_rangeFunc ?_;intro fn hfn;have hro:Fence.wide.round=none:=rfl;rw[hro];obtain⟨rec,WG⟩:∃rec:LoopState->Option Code->Loop,rec=λst pe=>{state:=st,pending:=pe,fn,tmps:=a.tmps,params:=ps,assign,body,defers:=w.heap.size}:=⟨_,rfl⟩;obtain⟨W1,hW1⟩:∃W1,(w.alloc (.deferred (some []))).alloc (.loop (rec .ready none))=W1:=⟨_,rfl⟩;have hL1:W1.heap[w.heap.size+1]?=some (.loop (rec .ready none)):=by rw[<-hW1];have:=World.alloc_heap_new (w.alloc (.deferred (some []))) (.loop (rec .ready none));rwa [World.size_alloc] at this
 have hK1:W1.heap[w.heap.size]?=some (.deferred (some [])):=by rw[<-hW1];exact(Below.heap_alloc _ _ _ (by simp)).trans (World.alloc_heap_new w _)
 have hI1:I W1:=by rw[<-hW1];exact hI _ _ none (hI _ _ none h0 (World.grownBy_alloc _ _ none) nofun) (World.grownBy_alloc _ _ none) nofun
 have Tp:Below w.heap.size w W1:=by rw[<-hW1];exact(((Below.refl _ w).alloc (Ac _) _).alloc (by simp) _)
 refine⟨w.heap.size+1,[{target:= .collected w.heap.size,args:=#[]}],W1,{target:= .fn (.func gf) lb,args:=#[.func (.yield (w.heap.size+1)) #[] #[]]},W1,gf,
  #[.func (.yield (w.heap.size+1)) #[] #[]]++lb,W1,?_,?_,?_,?_,nofun,?_⟩
 .rw[<-hW1,WG];exact run_enterLoop_outer _ _ _ _ _
 .simp only[resolve,hg];simp[go_sem]
 .intro f' vZ;trivial
 .simp[invoke,go_sem,eg]
 .refine(A_ (w.heap.size+1)
   (λW=>I W/\W.heap[w.heap.size+1]?=some (.loop (rec .ready none))/\W.heap[w.heap.size]?=some (.deferred (some [])))
   (λW=>Ix W/\W.heap[w.heap.size+1]?=some (.loop (rec .done (some .ret)))/\W.heap[w.heap.size]?=some (.deferred (some [])))
   W1 Tp
   (λA B row hs hg' hr=>⟨hI A B row hs.1 hg' (λr e=> .inl (hr r e)),(hg'.block _ (A4.1 hs.2.1).1 (λe=>by have:=hr _ e.symm;omega)).trans hs.2.1,
    (hg'.block _ (A4.1 hs.2.2).1 (λe=>by have:=hr _ e.symm;omega)).trans hs.2.2⟩)
   ?_ ⟨hI1,hL1,hK1⟩).mono ?_
  .rintro x W ⟨hi,hl,hk⟩;have hlt:w.heap.size+1<W.heap.size:=(A4.1 hl).1;have hy:=run_yield (P:=P) (args:=#[.int .i64 x]) hl (by rw[WG];exact gd.symm);rw[WG] at hy;refine⟨fn,_,assign,body,hy,roundIn_of_wpIn hfn (hassign _ x W _ ⟨_,run_beginRound hl (by rw[WG]),?_⟩)⟩;have Xr:(W.putObj (w.heap.size+1) (.loop {rec .ready none with state:= .busy})).heap[w.heap.size+1]?=some (.loop {rec .ready none with state:= .busy}):=World.putObj_heap_same hlt;have Wj:(W.putObj (w.heap.size+1) (.loop {rec .ready none with state:= .busy})).heap[w.heap.size]?=some (.deferred (some [])):=(World.putObj_heap_other (by omega)).trans hk;have vX:Below w.heap.size W (W.putObj (w.heap.size+1) (.loop {rec .ready none with state:= .busy})):=belowK_b (Ac _) W _ _ _ (by omega) hl rfl rfl;refine wpIn_mono (UT _ x _ (hI _ _ _ hi (grownBy_putObj' W _ _) (λr e=> .inr (by cases e;omega)))) ?_;have GM:∀(jump:Option Code) (W3:World),KeepsOthers (W.putObj (w.heap.size+1) (.loop {rec .ready none with state:= .busy})) W3->
     (Instr.endRound (w.heap.size+1) jump).run P W3= .ok (.bool jump.isNone) (W3.putObj (w.heap.size+1) (.loop (rec (if jump.isNone then .ready else .done) jump)))/\
     W3.heap[w.heap.size+1]?=some (.loop {rec .ready none with state:= .busy})/\
     (W3.putObj (w.heap.size+1) (.loop (rec (if jump.isNone then .ready else .done) jump))).heap[w.heap.size+1]?=some (.loop (rec (if jump.isNone then .ready else .done) jump))/\
     (W3.putObj (w.heap.size+1) (.loop (rec (if jump.isNone then .ready else .done) jump))).heap[w.heap.size]?=some (.deferred (some [])):=λjump W3 dW=>by
    have ZH:=dW.same _ _ Xr rfl;have:=run_endRound (P:=P) jump ZH;rw[WG] at this⊢;exact⟨this,by rw[WG] at ZH;exact ZH,World.putObj_heap_same (A4.1 ZH).1,(World.putObj_heap_other (by omega)).trans (dW.same _ _ Wj rfl)⟩
   rintro e a3 W3 hp;cases e with
   |normal=>obtain⟨dW,aJN,gw,hne⟩:=hp;obtain⟨hr,ZH,hl4,ij⟩:=GM none W3 dW;exact⟨_,_,hr,.inl ⟨rfl,⟨hI _ _ _ gw (grownBy_putObj' W3 _ _) (λr e=> .inr (by cases e;omega)),hl4,ij⟩,(vX.trans aJN).trans (belowK_b (Ac _) W3 _ _ _ (by omega) ZH rfl rfl),hne⟩⟩
   |ret=>obtain⟨dW,gw,he⟩:=hp;obtain⟨hr,ZH,hl4,ij⟩:=GM (some .ret) W3 dW;exact⟨_,_,hr,.inr ⟨rfl,⟨hIx _ _ _ gw (grownBy_putObj' W3 _ _) (λr e=> .inr (by cases e;omega)),hl4,ij⟩,he⟩⟩
   |exit id=>exact hp.elim
   |goto t=>exact hp.elim
   |panic ch=>exact hp.elim
   |outgrown=>exact hp.elim
  .rintro e W2 ⟨⟨v,rfl⟩,⟨hb,hi,hl,hk⟩|⟨hb,hi,hl,hk⟩⟩;·exact⟨none,_,by have:=run_endLoop (P:=P) hl (by rw[WG];simp);rw[WG] at this;exact this,wN _ _ hb (hI _ _ _ hi (grownBy_putObj' W2 _ _) (λr e=> .inr (by cases e;omega))) ((World.putObj_heap_other (by omega)).trans hk) (Ac _)⟩
   .exact⟨some .ret,_,by have:=run_endLoop (P:=P) hl (by rw[WG];simp);rw[WG] at this;exact this,wO _ _ hb (hIx _ _ _ hi (grownBy_putObj' W2 _ _) (λr e=> .inr (by cases e;omega))) ((World.putObj_heap_other (by omega)).trans hk) (Ac _)⟩
theorem Cy{W:World}{k j:Nat}{v:Value}(o:Obj)(h:W.cell? ⟨k,j,none⟩=some v):(W.alloc o).cell? ⟨k,j,none⟩=some v:=by rw[World.cell?_alloc_past _ _ _ (Dp h)];exact h
theorem JZ{W:World}{k j:Nat}{v:Value}(o:Obj)(h:W.cell? ⟨k,j,none⟩=some v):(W.alloc o).frozen? ⟨k,j,none⟩=W.frozen? ⟨k,j,none⟩:=
 World.frozen?_alloc_past _ _ _ (Dp h)
theorem KP(W:World)(v:Value)(t:TypeId):(W.alloc (.cells #[v] t)).cell? ⟨W.heap.size,0,none⟩=some v/\(W.alloc (.cells #[v] t)).frozen? ⟨W.heap.size,0,none⟩=false:=by
 have h:(W.alloc (.cells #[v] t)).heap[W.heap.size]?=some (.cells #[v] t (0,0)):=World.alloc_heap_new W _;constructor;·simp only[World.cell?,h];rfl
 .simp only[World.frozen?,h];rfl
theorem UZ{A B:World}{row:Option Nat}{k:Nat}{v:Value}(h:A.cell? ⟨k,0,none⟩=some v)(hg:A.grownBy B row)(hr:∀r,row=some r->k≠r):
  B.cell? ⟨k,0,none⟩=some v/\B.frozen? ⟨k,0,none⟩=A.frozen? ⟨k,0,none⟩:=by
 have hb:B.heap[k]?=A.heap[k]?:=hg.block k (Dp h) (λe=>hr k e.symm rfl);exact⟨by rw[Cw hb];exact h,by simp only[World.frozen?,hb]⟩
set_option maxRecDepth 100000 in
set_option maxHeartbeats 2000000 in
theorem B_(ga gn off n cap:Nat)(cs:List Aa)(up x:Int)(w:World)(C_:ga<w.heap.size)(uw:gn<w.heap.size)(NW:n<=cap)(hm:cap<=maxLen)
  (hc:w.cell? ⟨ga,0,none⟩=some (.slice (some ⟨gn,off,none⟩) n cap))
  (hx:∀(h:Int) (k:Nat) (v:Int),1<=h->h<=n->(k=1\/k=12)->Ga cs off h k=some v->w.cell? ⟨gn,off+(h.toNat-1)*13+k,none⟩=some (.int .i64 v))
  (b:Bool) (hcl:KC cs off n up (n+1) x=some b) (Ny:1<=up) (HU:up<=n) (NA:1<=x) (Yv:x<=n):
  Calls Proofs.Tryz.prog 197 #[.pointer (some ⟨ga,0,none⟩),.int .i64 up,.int .i64 x] w λe w'=>e= .returned (.bool b)/\Below w.heap.size w w':=by
 refine(callsIn_wide (n:=5)).1 ?_;refine callsIn_of_wp_marks Proofs.Tryz.func197 rfl trivial ?_;simp only[Proofs.Tryz.ntmps197,B7,Bf,BU,Nat.reduceAdd,Nat.reduceSub,TJ,TK,dZ,Wp,BD,CC];have c0:((w.alloc (.cells #[.int .i64 up] 3)).alloc (.cells #[.bool false] 4)).cell? ⟨ga,0,none⟩=some (.slice (some ⟨gn,off,none⟩) n cap):=by rw[World.cell?_alloc_past _ _ _ (by simp;omega),World.cell?_alloc_past _ _ _ C_];exact hc
 have n1:=KP w (.int .i64 up) 3;have n2:=KP (w.alloc (.cells #[.int .i64 up] 3)) (.bool false) 4;have n3:=KP ((w.alloc (.cells #[.int .i64 up] 3)).alloc (.cells #[.bool false] 4)) (.pointer (some ⟨ga,0,none⟩)) 38;have n4:=KP (((w.alloc (.cells #[.int .i64 up] 3)).alloc (.cells #[.bool false] 4)).alloc (.cells #[.pointer (some ⟨ga,0,none⟩)] 38)) (.int .i64 x) 3;have n5:=KP ((((w.alloc (.cells #[.int .i64 up] 3)).alloc (.cells #[.bool false] 4)).alloc (.cells #[.pointer (some ⟨ga,0,none⟩)] 38)).alloc (.cells #[.int .i64 x] 3)) (.bool true) 4;simp only[World.size_alloc] at n2 n3 n4 n5;have d1:decide (1<=up/\up<=n)=true:=AD ⟨Ny,HU⟩;have d2:decide (1<=x/\x<=n)=true:=AD ⟨NA,Yv⟩;gi_wp2
 refine⟨trivial,(callsIn_wide.2 (Xs ga _ n cap up _ c0)).mono ?_⟩;rintro e w' ⟨rfl,rfl⟩;rw[d1];gi_wp2
 refine⟨trivial,(callsIn_wide.2 (Xs ga _ n cap x _ c0)).mono ?_⟩;rintro e w' ⟨rfl,rfl⟩;rw[d2];gi_wp2
 refine⟨trivial,(callsIn_wide.2 (aD9 ga x _)).mono ?_⟩;rintro e w' ⟨rfl,rfl⟩;gi_wp2
 refine Yu (gf:=302) (lb:=#[.pointer (some ⟨w.heap.size+1+1+1,0,none⟩),.pointer (some ⟨w.heap.size+1+1,0,none⟩),.pointer (some ⟨w.heap.size+1+1+1+1,0,none⟩)]) (w.heap.size+1+1+1) b up rfl (Go.Proofs.enters_of Proofs.Tryz.func302 (by kernel_rfl) rfl) (by simp)
  ?A_ rfl
  (λW=>Below w.heap.size w W/\W.cell? ⟨w.heap.size,0,none⟩=some (.int .i64 up)/\W.cell? ⟨w.heap.size+1,0,none⟩=some (.bool false)/\W.frozen? ⟨w.heap.size+1,0,none⟩=false)
  (λW=>Below w.heap.size w W/\W.cell? ⟨w.heap.size+1,0,none⟩=some (.bool true)) ?hI ?hIx ?h0
  (λy=>{tmps:=#[.pointer (some ⟨ga,0,none⟩),.int .i64 up,.int .i64 x,undef,.pointer (some ⟨w.heap.size,0,none⟩),undef,.pointer (some ⟨w.heap.size+1,0,none⟩),.int .i64 y,.pointer (some ⟨ga,0,none⟩),.int .i64 up,.bool true,.bool false,.bool false,.pointer (some ⟨ga,0,none⟩),.int .i64 x,.bool true,.bool false,.bool false,.pointer (some ⟨ga,0,none⟩),.int .i64 x,.func (.func 302) #[] #[.pointer (some ⟨w.heap.size+1+1+1,0,none⟩),.pointer (some ⟨w.heap.size+1+1,0,none⟩),.pointer (some ⟨w.heap.size+1+1+1+1,0,none⟩)],.int .i64 y,undef,undef,undef],defers:=[]})
  ?hassign ?UT ?wN ?wO
 case hI=>rintro A B row ⟨h1,h2,h3,h4⟩ hg hr;have IV:=Dp h3;have k1:=UZ h2 hg (λr e=>by rcases hr r e with rfl|h<;>simp at* <;>omega);have k2:=UZ h3 hg (λr e=>by rcases hr r e with rfl|h<;>simp at* <;>omega);exact⟨h1.grown hg (by omega) (λk e=>by rcases hr k e with rfl|h<;>simp at* <;>omega),k1.1,k2.1,k2.2.trans h4⟩
 case hIx=>rintro A B row ⟨h1,h3⟩ hg hr;have IV:=Dp h3;have k2:=UZ h3 hg (λr e=>by rcases hr r e with rfl|h<;>simp at* <;>omega);exact⟨h1.grown hg (by omega) (λk e=>by rcases hr k e with rfl|h<;>simp at* <;>omega),k2.1⟩
 case h0=>
  refine⟨(((((Below.refl _ w).alloc (Ac _) _).alloc (by simp) _).alloc (by simp;omega) _).alloc (by simp;omega) _).alloc (by simp;omega) _,?_,?_,?_⟩;·exact Cy _ (Cy _ (Cy _ (Cy _ n1.1)))
  .exact Cy _ (Cy _ (Cy _ n2.1))
  .rw[JZ _ (Cy _ (Cy _ n2.1)),JZ _ (Cy _ n2.1),JZ _ n2.1];exact n2.2
 case A_=>
  intro l J Jx W hW hJ hY hj;have kk:∀{k j:Nat} {v:Value},(((((w.alloc (.cells #[.int .i64 up] 3)).alloc (.cells #[.bool false] 4)).alloc (.cells #[.pointer (some ⟨ga,0,none⟩)] 38)).alloc (.cells #[.int .i64 x] 3)).alloc (.cells #[.bool true] 4)).cell? ⟨k,j,none⟩=some v->W.cell? ⟨k,j,none⟩=some v:=
   λ{k j v} h=>by rw[Cw (hW.block k (Dp h))];exact h
  have hs:aS (w.heap.size+1+1) (w.heap.size+1+1+1+1) ga gn off n cap cs W:=
   ⟨kk (Cy _ (Cy _ n3.1)),kk n5.1,kk (Cy _ (Cy _ (Cy _ c0))),λh k v h1 h2 h3 h4=>kk (Cy _ (Cy _ (Cy _ (Cy _ (Cy _ (hx h k v h1 h2 h3 h4))))))⟩
  refine aEa 4 l (w.heap.size+1+1+1) (w.heap.size+1+1) (w.heap.size+1+1+1+1) _ ga gn off n cap cs up J Jx hJ hY ?_ (by simp) NW hm W x hs (kk (Cy _ n4.1)) ?_ (n+1) b hcl hj;·rintro b (rfl|rfl|rfl|rfl)<;>simp<;>omega
  .have:W.frozen? ⟨w.heap.size+1+1+1,0,none⟩=_:=World.frozen?_of_block (hW.block (w.heap.size+1+1+1) (by simp));rw[this,JZ _ n4.1];exact n4.2
 case hassign=>
  intro l y W K hK;have aJP:=Oper.semAt_some l;gi_wp2
  exact hK
 case UT=>
  rintro l y W ⟨hb,Qk,HZ,tq⟩;have aJP:=Oper.semAt_some l;gi_wp2
  .rename_i he;obtain rfl:y=up:=eq_of_beq he;exact⟨KeepsOthers.setCell _ _ _,⟨hb.setCell (Gf _) _,World.cell?_setCell_same _ _ _ HZ⟩,rfl⟩
  .rename_i he;exact⟨KeepsOthers.refl _,Below.refl _ _,⟨hb,Qk,HZ,tq⟩,λe=>by subst e;simp at he⟩
 case wN=>
  rintro D W rfl ⟨hb,Qk,HZ,tq⟩ hK hD;gi_wp2
  have hK':=(KeepsOthers.setCell W ⟨w.heap.size+1,0,none⟩ (.bool false)).same D _ hK rfl;have hc5:=cell_kept (World.cell?_setCell_same W ⟨w.heap.size+1,0,none⟩ (.bool false) HZ) (grownBy_putObj' _ D (.deferred none)) (λr e=>by cases e;exact⟨_,hK',rfl⟩);refine⟨by simp,.inl ⟨_,_,rfl,run_takeDeferred hK',?_⟩⟩;refine⟨.bool false,?_,rfl,(hb.setCell (Gf _) _).grown (grownBy_putObj' _ D _) (by have:=Dp HZ;simp;omega) (λk e=>by cases e;simp at hD;omega)⟩;simp[results,Proofs.Tryz.f197,go_sem,hc5]
 case wO=>
  rintro D W rfl ⟨hb,HZ⟩ hK hD;gi_wp2
  have hc5:=cell_kept HZ (grownBy_putObj' _ D (.deferred none)) (λr e=>by cases e;exact⟨_,hK,rfl⟩);refine⟨by simp,.inl ⟨_,_,rfl,run_takeDeferred hK,?_⟩⟩;refine⟨.bool true,?_,rfl,hb.grown (grownBy_putObj' _ D _) (by have:=Dp HZ;omega) (λk e=>by cases e;simp at hD;omega)⟩;simp[results,Proofs.Tryz.f197,go_sem,hc5]
set_option maxRecDepth 100000 in
set_option maxHeartbeats 2000000 in
theorem U0(ga:Nat)(p:Option Addr)(n cap:Nat)(up x:Int)(w:World)(hc:w.cell? ⟨ga,0,none⟩=some (.slice p n cap))(ho:¬(1<=up/\up<=n/\1<=x/\x<=n)):
  Calls Proofs.Tryz.prog 197 #[.pointer (some ⟨ga,0,none⟩),.int .i64 up,.int .i64 x] w λe w'=>e= .returned (.bool false)/\Below w.heap.size w w':=by
 have c0:((w.alloc (.cells #[.int .i64 up] 3)).alloc (.cells #[.bool false] 4)).cell? ⟨ga,0,none⟩=some (.slice p n cap):=Cy _ (Cy _ hc);have n2:=KP (w.alloc (.cells #[.int .i64 up] 3)) (.bool false) 4;simp only[World.size_alloc] at n2;have hb:Below w.heap.size w ((w.alloc (.cells #[.int .i64 up] 3)).alloc (.cells #[.bool false] 4)):=((Below.refl _ w).alloc (Ac _) _).alloc (by simp) _;refine(callsIn_wide (n:=5)).1 ?_;refine callsIn_of_wp Proofs.Tryz.func197 rfl trivial ?_ rfl;simp only[Proofs.Tryz.ntmps197,B7,Bf,BU,Nat.reduceAdd,Nat.reduceSub,TJ,TK,dZ,Wp,BD,CC];by_cases h1:1<=up/\up<=n
 .have d1:decide (1<=up/\up<=n)=true:=AD h1;have d2:decide (1<=x/\x<=n)=false:=AB λh2=>ho ⟨h1.1,h1.2,h2.1,h2.2⟩;gi_wp2
  refine⟨trivial,(callsIn_wide.2 (Xs ga _ n cap up _ c0)).mono ?_⟩;rintro e w' ⟨rfl,rfl⟩;rw[d1];gi_wp2
  refine⟨trivial,(callsIn_wide.2 (Xs ga _ n cap x _ c0)).mono ?_⟩;rintro e w' ⟨rfl,rfl⟩;rw[d2];gi_wp2
  refine bodyPost_ret (v:= .bool false) ?_ rfl ⟨rfl,hb⟩;simp[results,Proofs.Tryz.f197,go_sem,n2.1]
 .have d1:decide (1<=up/\up<=n)=false:=AB h1;gi_wp2
  refine⟨trivial,(callsIn_wide.2 (Xs ga _ n cap up _ c0)).mono ?_⟩;rintro e w' ⟨rfl,rfl⟩;rw[d1];gi_wp2
  refine⟨trivial,?_⟩;gi_wp2
  refine bodyPost_ret (v:= .bool false) ?_ rfl ⟨rfl,hb⟩;simp[results,Proofs.Tryz.f197,go_sem,n2.1]
section
variable{h:Ag}
theorem Yw{cs:List Aa}{off:Nat}{x:Int}{k:Nat}{v:Int}(e:Ga cs off x k=some v):cs[off+(x.toNat-1)*13+k]?=some (.int .i64 v):=by
 unfold Ga at e;split at e;·rename_i hh;cases e;exact hh
 .cases e
theorem ir(n:Nat)(args:List Aa)(r:Aa)(h':Ag)(AV:IT.step (B5 cx) (IT.run (B5 cx) n) (Mg args) h=some (.ret,[r],h')):
  (∃fn c,cx.P.funcs[Ea 197]?=some fn/\(fn.name== "runtime.NumGoroutine")=false/\fn.body=some c)/\
  ∀(γ:Gh) (w:World) (cargs:Array Value),Gq γ h w->(∀g cs,cx.Gg g=some cs->CJ γ cs g 0)->Bb γ args cargs.toList->
   Calls cx.P (Ea 197) cargs w λe w'=>match e with
    | .returned v=>∃γ',Gq γ' h' w'/\J7 γ w γ' w'/\BH γ' r v/\(cx.Io 197=true->∃s c,HY γ' w.heap.size w' s c v r)
    |_=>False:=by
 refine⟨⟨_,_,Proofs.Tryz.func197,rfl,rfl⟩,λγ w cargs hi hg ha=>?_⟩;simp only[Mg,IT.step,Ed] at AV;cases e0:Mf h args with
 |none=>simp[e0] at AV
 |some R0=>
 obtain⟨h1,r1⟩:=R0;simp only[e0] at AV;cases AV;have GM:∀(b:Bool) (cs:Array Value),h'=h->r= .bool b->Calls Proofs.Tryz.prog 197 cs w (λe w'=>e= .returned (.bool b)/\Below w.heap.size w w')->
   Calls cx.P (Ea 197) cs w λe w'=>match e with
    | .returned v=>∃γ',Gq γ' h' w'/\J7 γ w γ' w'/\BH γ' r v/\(cx.Io 197=true->∃s c,HY γ' w.heap.size w' s c v r)
    |_=>False:=by
  rintro b cs rfl rfl hc;refine hc.mono λe w' he=>?_;obtain⟨rfl,hb⟩:=he;obtain⟨TT,Nz⟩:=hi.Ka hb;exact⟨γ,TT,Nz,rfl,λe=>by cases e⟩
 unfold Mf at e0;split at e0
 .rename_i id up x;obtain⟨v0,us,ud,⟨g,hm,rfl⟩,v1,us1,rfl,rfl,v2,eH,rfl,rfl,hnil⟩:=ha;cases hnil;have hcargs:cargs=#[.pointer (some ⟨g,0,none⟩),.int .i64 up,.int .i64 x]:=by apply Jm;simpa using ud
  subst hcargs;split at e0;·rename_i l hc;cases e0;obtain⟨_,y,hy,ry⟩:=hi.QJ hc hm (j:=0) rfl;cases ry;exact GM false _ rfl rfl (U0 g none 0 0 up x w hy (by omega))
  .rename_i nid off len l hc;split at e0
   .rename_i cs hcs;split at e0
    .rename_i hl;obtain⟨_,y,hy,gn,cap,uk,rfl,q1,⟨q2,q3⟩,q4⟩:=hi.QJ hc hm (j:=0) rfl;have C_:g<w.heap.size:=Dp hy;have uw:gn<w.heap.size:=by obtain⟨⟨us,e,fr,p1,p2⟩,_⟩:=hi.sz gn _ q4;exact(A4.1 p1).1
     split at e0
     .rename_i hr;cases e1:KC cs off len up (len+1) x with
      |none=>simp[e1] at e0
      |some b=>simp only[e1,BT,BF,KU] at e0;obtain⟨rfl,rfl⟩:=e0;refine GM b _ rfl rfl (B_ g gn off len cap cs up x w C_ uw q1 q3 hy (λt k v h1 h2 h3 h4=>?_) b e1 hr.1 hr.2.1 hr.2.2.1 hr.2.2.2);obtain⟨_,z,hz,rz⟩:=hi.QJ hcs uk (Yw h4);cases rz;exact hz
     .rename_i hr;cases e0;exact GM false _ rfl rfl (U0 g _ len cap up x w hy hr)
    .cases e0
   .cases e0
  .cases e0
 .cases e0
end
theorem Nr{T e:TypeId}{B b:Nat}{bs:List Value}{W W':World}(h:Lib.IsBuilder T e B b bs W)(hb:Below W.heap.size W W'):Lib.IsBuilder T e B b bs W':=by
 have key:∀p,Lib.BuilderAt T e B b p bs W->Lib.BuilderAt T e B b p bs W':=λp ⟨hB,v,fg,E4,hne⟩=>by refine⟨hB,v,(hb.block b (A4.1 fg).1).trans fg,?_,hne⟩;exact E4.kept (row:=none) ⟨hb.os,hb.tape,hb.output,hb.size,λk hk _=>hb.block k hk⟩ (Classical.em _)
 exact h.imp (key _) (key _)
theorem JH(a b:List UInt8):Lib.byteCells (a++b)=Lib.byteCells a++Lib.byteCells b:=by simp[Lib.byteCells]
theorem byteCells_length(a:List UInt8):(Lib.byteCells a).length=a.length:=by simp[Lib.byteCells]
theorem fV(d:Nat):Lib.repeatL [32,32] d=List.replicate (2*d) 32:=by
 induction d with
 |zero=>rfl
 |succ d ih=>rw[Lib.repeatL,ih,show 2*(d+1)=2*d+1+1 by omega,List.replicate_succ,List.replicate_succ];rfl
theorem fW:∀a:Aa,a.Ls=true->a.still=true
 | .bool _,_=>rfl
 | .int _ _,_=>rfl
 | .str _,_=>rfl
 |a,h=>by cases a<;>first|rfl|simp[Aa.Ls] at h
theorem SX:∀l:List Aa,l.all Aa.Ls=true->II l=true
 |[],_=>rfl
 |a::l,h=>by simp only[List.all_cons,BK] at h;simp only[II,BK];exact⟨fW a h.1,SX l h.2⟩
section
variable{γ:Gh}{h:Ag}{w:World}
theorem aT(hi:Gq γ h w){id g:Nat}{cs:List Aa}(hc:h[id]?=some (.cells cs))(hm:γ.mu id=some g):∀(n o:Nat),o+n<=cs.length->LC (Cm cs 1 o n)=true->
  (Cm cs 1 o n).length=n/\ET (FA w) (Cm cs 1 o n) 1 g o
 |0,o,_,_=>⟨rfl,trivial⟩
 |n+1,o,hl,hs=>by
  have hlt:o<cs.length:=by omega
  have e1:(cs.drop o).take 1=[cs[o]]:=by rw[AH hlt];rfl
  have TR:II ((cs.drop o).take 1)=true/\LC (Cm cs 1 (o+1) n)=true:=by simpa only[Cm,LC,BK] using hs
  obtain⟨p,q⟩:=aT hi hc hm n (o+1) (by omega) TR.2;rw[e1] at TR;have hst:cs[o].still=true:=by simpa[II] using TR.1
  obtain⟨u,hu,h1,hr⟩:=Mh hi hc hm (Ai hlt);refine⟨by simp[Cm,p],?_⟩;simp only[Cm,e1];exact⟨rfl,⟨⟨u,RM hu h1,BH.mem hi _ _ hst hr⟩,trivial⟩,q⟩
def Yx(w:World)(b o:Nat)(AZ:List (List Aa)):Prop:=
 ∃v,w.cell? ⟨b,o,none⟩=some v/\((v= .slice none 0 0/\AZ=[])\/
  (∃gk ko cap,v= .slice (some ⟨gk,ko,none⟩) AZ.length cap/\AZ.length<=cap/\cap<=maxLen/\gk<w.heap.size/\ET (FA w) AZ 1 gk ko))
theorem wQ(hi:Gq γ h w){id g:Nat}(hm:γ.mu id=some g){x:Int}{h1:Ag}{r:Aa}(e:rA h [.ptr (some (id,0)),.int .i64 x]=some (h1,r)):
  h1=h/\∃gn off n cap row c AZ,r= .tuple [.CB row,.int .i64 c,.sl 1 AZ]/\g<w.heap.size/\gn<w.heap.size/\w.cell? ⟨g,0,none⟩=some (.slice (some ⟨gn,off,none⟩) n cap)/\n<=cap/\cap<=maxLen/\
   1<=x/\x<=n/\CJ (FA w) row gn (off+(x.toNat-1)*13)/\w.cell? ⟨gn,off+(x.toNat-1)*13+11,none⟩=some (.int .i64 c)/\Yx w gn (off+(x.toNat-1)*13+2) AZ:=by
 unfold rA at e;split at e
 .rename_i E0 x' Jo;cases Jo;split at e
  .rename_i nid off n l hc;split at e
   .rename_i cs hcs;split at e
    .rename_i hx;split at e
     .rename_i c0 c1 c2 c3 c4 c5 c6 c7 c8 c9 Tq c uo hrow;split at e
      .rename_i hst;simp only[II,BK,NF] at hst;obtain⟨s0,s1,s3,s4,s5,s6,s7,s8,s9,s10,s12⟩:=hst;obtain⟨_,y,hy,gn,cap,uk,rfl,q1,⟨q2,q3⟩,q4⟩:=hi.QJ hc hm (j:=0) rfl;have uw:gn<w.heap.size:=by obtain⟨⟨us,e,fr,p1,p2⟩,_⟩:=hi.sz gn _ q4;exact(A4.1 p1).1
       have get:∀(j:Nat) (a:Aa),j<13->[c0,c1,c2,c3,c4,c5,c6,c7,c8,c9,Tq,.int .i64 c,uo][j]?=some a->cs[off+(x.toNat-1)*13+j]?=some a:=λj a hj ha=>by rw[<-hrow,C9 hj,CA] at ha;exact ha
       have key:∀(j:Nat) (a:Aa),j<13->[c0,c1,c2,c3,c4,c5,c6,c7,c8,c9,Tq,.int .i64 c,uo][j]?=some a->a.still=true->∃u,(FA w).HD gn (off+(x.toNat-1)*13+j)=some u/\BH (FA w) a u:=λj a hj ha hs=>by obtain⟨u,hu,ho,hr⟩:=Mh hi hcs uk (get j a hj ha);exact⟨u,RM hu ho,BH.mem hi _ _ hs hr⟩
       have U1:w.cell? ⟨gn,off+(x.toNat-1)*13+11,none⟩=some (.int .i64 c):=by obtain⟨u,hu,_,hr⟩:=Mh hi hcs uk (get 11 _ (by omega) rfl);cases hr;exact hu
       obtain⟨u2,HU,Wf,K5⟩:=Mh hi hcs uk (get 2 c2 (by omega) rfl);have mk:∀(k2:Aa),(∃u,(FA w).HD gn (off+(x.toNat-1)*13+2)=some u/\BH (FA w) k2 u)->CJ (FA w) [c0,c1,k2,c3,c4,c5,c6,c7,c8,c9,Tq,.int .i64 c,uo] gn (off+(x.toNat-1)*13):=λk2 h2=>⟨key 0 c0 (by omega) rfl s0,key 1 c1 (by omega) rfl s1,h2,key 3 c3 (by omega) rfl s3,key 4 c4 (by omega) rfl s4,key 5 c5 (by omega) rfl s5,key 6 c6 (by omega) rfl s6,key 7 c7 (by omega) rfl s7,key 8 c8 (by omega) rfl s8,key 9 c9 (by omega) rfl s9,key 10 Tq (by omega) rfl s10,key 11 _ (by omega) rfl rfl,key 12 uo (by omega) rfl s12,trivial⟩
       have hg:=Dp hy;split at e;·cases e;cases K5;exact⟨rfl,gn,off,n,cap,_,c,[],rfl,hg,uw,hy,q1,q3,hx.1,hx.2.1,mk _ ⟨_,RM HU Wf,rfl⟩,U1,_,HU,.inl ⟨rfl,rfl⟩⟩
       .rename_i LD ko m;split at e
        .rename_i ks fy;split at e
         .rename_i hk;cases e;obtain⟨gk,capk,ux,rfl,r1,⟨r2,r3⟩,r4⟩:=K5;obtain⟨t1,t2⟩:=aT hi fy ux m ko (by omega) hk.2;have hgk:gk<w.heap.size:=by obtain⟨⟨us,e,fr,p1,p2⟩,_⟩:=hi.sz gk _ r4;exact(A4.1 p1).1
          refine⟨rfl,gn,off,n,cap,_,c,Cm ks 1 ko m,rfl,hg,uw,hy,q1,q3,hx.1,hx.2.1,mk _ ⟨_,RM HU Wf,⟨gk,ko,none⟩,capk,by rw[t1],by rw[t1];exact r1,.inl rfl,t2⟩,U1,_,HU,.inr ⟨gk,ko,capk,by rw[t1],by rw[t1];exact r1,r3,hgk,t2⟩⟩
         .cases e
        .cases e
       .cases e
      .cases e
     .cases e
    .cases e
   .cases e
  .cases e
 .cases e
theorem iu{n:Nat}(hs:EF cx (IT.run (B5 cx) n))(hi:Gq γ h w)(hg:∀g cs,cx.Gg g=some cs->CJ γ cs g 0){row:List Aa}{s:As}{h1:Ag}(e:IT.run (B5 cx) n (B5 cx 182 [.CB row]) []=some (.ret,[.str s],h1))
  {W:World} (hb:Below w.heap.size w W) {gn o:Nat} (hr:CJ (FA w) row gn o):
  Calls Proofs.Tryz.prog 182 #[.pointer (some ⟨gn,o,none⟩)] W λe W'=>e= .returned (.string ⟨⟨s⟩⟩)/\Below W.heap.size W W':=by
 refine((hs.2 182 _ _ _ _ e).2 (FA W) W #[.pointer (some ⟨gn,o,none⟩)] (wH W) (λg cs ua=>CJ.mono (aO hb) cs g 0 (CJ.mem hi cs g 0 (SX cs (hs.1.1 g cs ua)) (hg g cs ua)))
  ⟨_,_,rfl,⟨gn,o,rfl,CJ.mono (aO hb) row gn o hr⟩,rfl⟩).mono λe W' he=>?_
 cases e with
 |returned v=>obtain⟨γ',_,ha,hv,_⟩:=he;cases hv;exact⟨rfl,ha.os,ha.tape,ha.output,ha.size,λk hk=>(ha.MK k hk (λid=>by simp[FA])).1⟩
 |_=>exact he.elim
end
theorem iv{w:World}{b o:Nat}{AZ:List (List Aa)}(h:Yx w b o AZ):∃p cap,w.cell? ⟨b,o,none⟩=some (.slice p AZ.length cap)/\AZ.length<=cap/\cap<=maxLen/\
  ∀(i:Nat) (y:Int),AZ[i]?=some [.int .i64 y]->∃gk ko,p=some ⟨gk,ko,none⟩/\gk<w.heap.size/\w.cell? ⟨gk,ko+i,none⟩=some (.int .i64 y):=by
 obtain⟨v,hv,⟨rfl,rfl⟩|⟨gk,ko,cap,rfl,h1,h2,h3,h4⟩⟩:=h;·exact⟨none,0,hv,Ac _,by decide,λi y hi=>by simp at hi⟩
 .refine⟨_,cap,hv,h1,h2,λi y hi=>⟨gk,ko,rfl,h3,?_⟩⟩;obtain⟨_,⟨u,hu,hr⟩,_⟩:=ET.get h4 hi;cases hr;have:=hu;simp only[FA,Option.filter_eq_some_iff] at this;simpa using this.1
theorem aU(l:List UInt8):Lib.strCells ⟨l.toArray⟩=Lib.byteCells l:=by simp[Lib.strCells,Lib.byteCells]
theorem Yy(l:List UInt8):Lib.strCells ⟨⟨l⟩⟩=Lib.byteCells l:=by simp[Lib.strCells,Lib.byteCells]
theorem fX(i n:Nat)(h:i<n)(hn:n<=9223372036854775807):wrap64 ((i:Int)+1)=((i+1:Nat):Int):=by rw[Go.IntWalk.wrap64_in _ ⟨by omega,by omega⟩];omega
theorem Xt(d:Nat)(h:d<=1000):wrap64 ((d:Int)+1)=((d+1:Nat):Int):=by rw[Go.IntWalk.wrap64_in _ ⟨by omega,by omega⟩];omega
abbrev tV(g:Nat)(w0:World)(x:Int)(d:Nat)(Dw PS:As):Prop:=
 ∀(B b:Nat) (W:World),w0.heap.size<=B->B<=W.heap.size->Below w0.heap.size w0 W->Lib.IsBuilder 151 5 B b (Lib.byteCells Dw) W->
  Calls Proofs.Tryz.prog 95 #[.pointer (some ⟨g,0,none⟩),.pointer (some ⟨b,0,none⟩),.int .i64 x,.int .i64 d] W λe W'=>(∃v,e= .returned v)/\Lib.IsBuilder 151 5 B b (Lib.byteCells PS) W'/\Below B W W'
theorem rD{p:Prop}(h:p):Hid p:=h
theorem K8{w0 W':World}{k j:Nat}{v:Value}(hb:Below w0.heap.size w0 W')(h:w0.cell? ⟨k,j,none⟩=some v):W'.cell? ⟨k,j,none⟩=some v:=by rw[Cw (hb.block k (Dp h))];exact h
def fY:Code->Code
 | .seq _ c=>fY c
 | .block _ c=>c
 |c=>c
noncomputable def wR:Code:=match Proofs.Tryz.f95.body with
 |some c=>fY c
 |none=> .skip
set_option maxRecDepth 100000 in
set_option maxHeartbeats 2000000 in
theorem wS{w0 W W6:World}{g B b d capk:Nat}{p:Option Addr}{AZ:List (List Aa)}(hB:w0.heap.size<=B)(hBW:B<=W.heap.size)(hb:Below w0.heap.size w0 W)(hd:d<=1000)
  (Wj:AZ.length<=capk) (dW:capk<=maxLen) (ij:∀(i:Nat) (y:Int),AZ[i]?=some [.int .i64 y]->∃gk ko,p=some ⟨gk,ko,none⟩/\gk<w0.heap.size/\w0.cell? ⟨gk,ko+i,none⟩=some (.int .i64 y))
  (f:Nat->As) (hf:∀i,i<AZ.length->∃y,AZ[i]?=some [.int .i64 y]/\tV g w0 y (d+1) (f i) (f (i+1))) (bb6:Below B W W6) (l6:Lib.IsBuilder 151 5 B b (Lib.byteCells (f 0)) W6)
  (z2 z4 z5 z6 z7 z8 z9 z10 z11 z12 z13 z14 z15 z16 z17 z18 z19 z20 z21 z22 z23 z24 z25 z26 z27 z28 z29 z30 z31 z32 z33 z34 z35 z36 z37 z38 z39 z40 z41 z42 z43 z44 z45 z49 z50 z51 z52 z53 z54 z55 z56 z57 z58:Value):
  wR.wpIn Fence.wide 5 Proofs.Tryz.prog (Exit.inBlock 0<|bodyPost Proofs.Tryz.prog Proofs.Tryz.f95 λe W'=>(∃v,e= .returned v)/\Lib.IsBuilder 151 5 B b (Lib.byteCells (f AZ.length)) W'/\Below B W W')
   {tmps:=#[.pointer (some ⟨g,0,none⟩),.pointer (some ⟨b,0,none⟩),z2,.int .i64 d,z4,z5,z6,z7,z8,z9,z10,z11,z12,z13,z14,z15,z16,z17,z18,z19,z20,z21,z22,z23,z24,z25,z26,z27,z28,z29,z30,z31,z32,z33,z34,z35,z36,z37,z38,z39,z40,z41,z42,z43,z44,z45,.slice p AZ.length capk,.int .i64 AZ.length,.int .i64 0,z49,z50,z51,z52,z53,z54,z55,z56,z57,z58],defers:=[]} W6:=by
 simp only[wR,fY,Proofs.Tryz.f95];gi_loopg [48] AZ.length (λk v wr=>∃i,i<=AZ.length/\k=AZ.length-i/\v= .int .i64 (i:Nat)/\Below B W wr/\Lib.IsBuilder 151 5 B b (Lib.byteCells (f i)) wr)
 case atStart=>exact⟨0,AO _,rfl,rfl,bb6,l6⟩
 case round=>
  obtain⟨i,hi,rfl,rfl,bbi,li⟩:=hrel;by_cases hlt:i<AZ.length
  .obtain⟨y,hy,uy⟩:=hf i hlt;obtain⟨gk,ko,rfl,hgk,IU⟩:=ij i y hy;have hbi:Below w0.heap.size w0 wr:=hb.trans (bbi.mono hB);have ci:=K8 hbi IU;have aQb:(i:Int)<(AZ.length:Int):=by exact_mod_cast hlt
   have hwi:=fX i _ hlt (Bt Wj dW);have hwd:=Xt d hd;have Wy:=uy B b _ hB (Bt hBW bbi.size) hbi li;clear uy hf ij Wj dW hbi li l6 bb6 IU hy hgk hB hBW hb;rw[show((d+1:Nat):Int)=(d:Int)+1 from rfl] at Wy;gi_wp2
   refine⟨trivial,(callsIn_wide.2 Wy).mono ?_⟩;rintro e W7 ⟨⟨v,rfl⟩,l7,b7⟩;gi_wp2
   gi_roundg (AZ.length-(i+1))
   case measure=>exact Nat.sub_lt_sub_left hlt (tO i)
   case rel=>refine⟨i+1,hlt,rfl,?_,bbi.trans b7,l7⟩;first|rfl|exact Cf (Value.int .i64) hwi
  .obtain rfl:i=AZ.length:=Nat.le_antisymm hi (Nat.le_of_not_lt hlt);gi_wp2
   go_end0
   exact⟨⟨_,rfl⟩,li,bbi⟩
set_option maxRecDepth 100000 in
set_option maxHeartbeats 2000000 in
theorem D_{w0:World}{g gn off n cap:Nat}{c x:Int}{AZ:List (List Aa)}(zc:g<w0.heap.size)(uw:gn<w0.heap.size)(hc:w0.cell? ⟨g,0,none⟩=some (.slice (some ⟨gn,off,none⟩) n cap))(NW:n<=cap)(hm:cap<=maxLen)
  (NA:1<=x) (Yv:x<=n) (ZI:w0.cell? ⟨gn,off+(x.toNat-1)*13+11,none⟩=some (.int .i64 c)) (hk:Yx w0 gn (off+(x.toNat-1)*13+2) AZ)
  {d:Nat} (hd:d<=1000) {Dw acc2 s:As}
  (lG:∀W,Below w0.heap.size w0 W->Calls Proofs.Tryz.prog 182 #[.pointer (some ⟨gn,off+(x.toNat-1)*13,none⟩)] W λe W'=>e= .returned (.string ⟨⟨s⟩⟩)/\Below W.heap.size W W')
  (hlen:(Dw++List.replicate (2*d) 32++s++[10]).length<=AT)
  (lH:(c=0/\acc2=Dw++List.replicate (2*d) 32++s++[10])\/(c≠0/\tV g w0 c (d+1) (Dw++List.replicate (2*d) 32++s++[10]) acc2))
  (f:Nat->As) (dV:f 0=acc2) (hf:∀i,i<AZ.length->∃y,AZ[i]?=some [.int .i64 y]/\tV g w0 y (d+1) (f i) (f (i+1))):
  tV g w0 x d Dw (f AZ.length):=by
 intro B b W hB hBW hb hbl;obtain⟨p,capk,Wr,Wj,dW,ij⟩:=iv hk;have ub:AT=140737488355328:=rfl;simp only[Ao,Gr,Bf,BU] at hlen;have m1:2*d<=140737488355328:=by rw[ub] at hlen;omega
 have m2:(Lib.byteCells Dw).length+(⟨(List.replicate (2*d) (32:UInt8)).toArray⟩:ByteArray).size<=140737488355328:=by rw[ub] at hlen;rw[byteCells_length];simp only[ByteArray.size,B7,Gr];omega
 have m3:(Lib.byteCells (Dw++List.replicate (2*d) 32)).length+(⟨⟨s⟩⟩:ByteArray).size<=140737488355328:=by rw[ub] at hlen;rw[byteCells_length];simp only[ByteArray.size,Ao,Gr];show _+s.length<=_;omega
 have m4:(Lib.byteCells (Dw++List.replicate (2*d) 32++s)).length+1<=140737488355328:=by rw[ub] at hlen;rw[byteCells_length];simp only[Ao,Gr];omega
 have m5:d<=9223372036854775807:=Bt hd (by decide);clear hlen ub;have Hline:=rD lG;have Hcont:=rD lH;have Hf:=rD hf;have Hk4:=rD ij;have Hk2:=rD Wj;have Hk3:=rD dW;clear lG lH hf ij hk Wj dW;refine(callsIn_wide (n:=5)).1 ?_;refine callsIn_of_wp Proofs.Tryz.func95 rfl trivial ?_ rfl;simp only[Proofs.Tryz.ntmps95,B7,Bf,BU,Nat.reduceAdd,Nat.reduceSub,TJ,TK,dZ,Wp,BD,CC];gi_wp2
 refine⟨trivial,(callsIn_wide.2 (aD8 g gn off n cap x _ (K8 hb hc) NA Yv NW hm)).mono ?_⟩;rintro e w' ⟨rfl,rfl⟩;gi_wp2
 refine⟨trivial,(callsIn_wide.2 (Proofs.Tryz.strings_Repeat ⟨#[32,32]⟩ d _ m5 m1)).mono ?_⟩;rintro e W1 ⟨rfl,b1⟩;have Tp:Below w0.heap.size w0 W1:=hb.trans (b1.mono hb.size);have bb1:Below B W W1:=b1.mono hBW;have l1:=Nr hbl b1;have hr:(Lib.repeatL (⟨#[32,32]⟩:ByteArray).data.toList d)=List.replicate (2*d) 32:=fV d;rw[hr];gi_wp2
 refine⟨trivial,(callsIn_wide.2 (Proofs.Tryz.Builder_WriteString B b (Lib.byteCells Dw) _ _ l1 m2 (Bt hBW bb1.size))).mono ?_⟩;rintro e W2 ⟨rfl,l2,b2⟩;rw[aU,<-JH] at l2;have bb2:=bb1.trans b2;have MF:Below w0.heap.size w0 W2:=Tp.trans (b2.mono hB);gi_wp2
 refine⟨trivial,(callsIn_wide.2 (Hline.out _ MF)).mono ?_⟩;rintro e W3 ⟨rfl,b3⟩;have tW:Below w0.heap.size w0 W3:=MF.trans (b3.mono MF.size);have bb3:Below B W W3:=bb2.trans (b3.mono (Bt hBW bb2.size));have l3:=Nr (.inr l2) b3;gi_wp2
 refine⟨trivial,(callsIn_wide.2 (Proofs.Tryz.Builder_WriteString B b _ _ _ l3 m3 (Bt hBW bb3.size))).mono ?_⟩;rintro e W4 ⟨rfl,l4,b4⟩;rw[Yy,<-JH] at l4;have bb4:=bb3.trans b4;have hb4:Below w0.heap.size w0 W4:=tW.trans (b4.mono hB);gi_wp2
 refine⟨trivial,(callsIn_wide.2 (Proofs.Tryz.Builder_WriteByte B b _ 10 _ (.inr l4) m4 (Bt hBW bb4.size))).mono ?_⟩;rintro e W5 ⟨rfl,l5,b5⟩;have e10:Lib.byteCells (Dw++List.replicate (2*d) 32++s)++[Value.int .u8 10]=Lib.byteCells (Dw++List.replicate (2*d) 32++s++[10]):=by rw[JH (Dw++List.replicate (2*d) 32++s) [10]];rfl
 replace l5:=e10▸l5;have bb5:=bb4.trans b5;have hb5:Below w0.heap.size w0 W5:=hb4.trans (b5.mono hB);have c5:=K8 hb5 ZI;clear NW hm NA Yv hc m1 m2 m3 m4 m5 l1 l3 l4 l2;rcases Hcont.out with⟨rfl,rfl⟩|⟨E_,wT⟩
 .have bb6:=bb5;have l6:Lib.IsBuilder 151 5 B b (Lib.byteCells (f 0)) W5:=by rw[dV];exact .inr l5
  have ck:=K8 hb5 Wr;gi_wp2
  exact wS hB hBW hb hd Hk2.out Hk3.out Hk4.out f Hf.out bb6 l6 _ _ _ _ _ _ _ _ _ _ _ _ _ _ _ _ _ _ _ _ _ _ _ _ _ _ _ _ _ _ _ _ _ _ _ _ _ _ _ _ _ _ _ _ _ _ _ _ _ _ _ _ _
 .have hne:(c != 0)=true:=by simp[E_]
  have hwd:=Xt d hd;have aEc:=wT B b _ hB (Bt hBW bb5.size) hb5 (.inr l5);rw[show((d+1:Nat):Int)=(d:Int)+1 from rfl] at aEc;gi_wp2
  refine⟨trivial,(callsIn_wide.2 aEc).mono ?_⟩;rintro e W6 ⟨⟨v,rfl⟩,l6',b6⟩;have bb6:=bb5.trans b6;have hb6:Below w0.heap.size w0 W6:=hb5.trans (b6.mono hB);have l6:Lib.IsBuilder 151 5 B b (Lib.byteCells (f 0)) W6:=by rw[dV];exact l6'
  have ck:=K8 hb6 Wr;gi_wp2
  exact wS hB hBW hb hd Hk2.out Hk3.out Hk4.out f Hf.out bb6 l6 _ _ _ _ _ _ _ _ _ _ _ _ _ _ _ _ _ _ _ _ _ _ _ _ _ _ _ _ _ _ _ _ _ _ _ _ _ _ _ _ _ _ _ _ _ _ _ _ _ _ _ _ _
section
variable{γ:Gh}{h:Ag}{w0:World}
abbrev F_(fuel d:Nat)(a:Aa):List Aa->(As->IT)->As->IT:=λLD K Dw=>match LD with
 |[.int .i64 y]=>Hb 182 a fuel y (d+1) Dw K
 |_=> .fail
theorem aV{run:IT->Ag->Option Js}{g fuel d:Nat}{a:Aa}(ih:∀(x:Int) (Dw:As) (k:As->IT) (res:Js),IT.step (B5 cx) run (Hb 182 a fuel x (d+1) Dw k) h=some res->∃PS,IT.step (B5 cx) run (k PS) h=some res/\tV g w0 x (d+1) Dw PS):
  ∀(AZ:List (List Aa)) (Dw:As) (k:As->IT) (res:Js),IT.step (B5 cx) run (AZ.foldr (F_ fuel d a) k Dw) h=some res->
   ∃f:Nat->As,f 0=Dw/\IT.step (B5 cx) run (k (f AZ.length)) h=some res/\∀i,i<AZ.length->∃y,AZ[i]?=some [.int .i64 y]/\tV g w0 y (d+1) (f i) (f (i+1))
 |[],Dw,k,res,e=>⟨λ_=>Dw,rfl,e,λi hi=>by simp at hi⟩
 |LD::AZ,Dw,k,res,e=>by
  simp only[List.foldr_cons] at e;unfold F_ at e;split at e
  .rename_i y;obtain⟨acc1,e1,c1⟩:=ih _ _ _ _ e;obtain⟨f,f0,f1,f2⟩:=aV ih AZ acc1 k res e1;refine⟨λ|0=>Dw|i+1=>f i,rfl,f1,λi hi=>?_⟩;cases i with
   |zero=>
    have hc:tV g w0 y (d+1) Dw (f 0):=by rw[f0];exact c1
    exact⟨y,rfl,hc⟩
   |succ i=>obtain⟨y',p,q⟩:=f2 i (by simpa using hi);exact⟨y',by simpa using p,q⟩
  .cases e
theorem wU{run:IT->Ag->Option Js}{a:Aa}{x:Int}{d:Nat}{Dw:As}{k:As->IT}{res:Js}(fuel:Nat)(e:IT.step (B5 cx) run (Hb 182 a fuel x d Dw k) h=some res):∃id,a= .ptr (some (id,0)):=by
 cases fuel with
 |zero=>simp[Hb,IT.step] at e
 |succ fuel=>
  simp only[Hb,IT.step,Ed] at e;cases e0:rA h [a,.int .i64 x] with
  |none=>simp[e0] at e
  |some R0=>
   unfold rA at e0;split at e0;·rename_i id x' Jo;cases Jo;exact⟨id,rfl⟩
   .cases e0
theorem aW{n:Nat}(hs:EF cx (IT.run (B5 cx) n))(hi:Gq γ h w0)(hg:∀g cs,cx.Gg g=some cs->CJ γ cs g 0){id g:Nat}(hm:γ.mu id=some g):
  ∀(fuel:Nat) (x:Int) (d:Nat) (Dw:As) (k:As->IT) (res:Js),d+fuel<=1000->IT.step (B5 cx) (IT.run (B5 cx) n) (Hb 182 (.ptr (some (id,0))) fuel x d Dw k) h=some res->
   ∃PS,IT.step (B5 cx) (IT.run (B5 cx) n) (k PS) h=some res/\tV g w0 x d Dw PS/\∃p cap ln,w0.cell? ⟨g,0,none⟩=some (.slice p ln cap)/\1<=x/\x<=ln
 |0,x,d,Dw,k,res,_,e=>by simp[Hb,IT.step] at e
 |fuel+1,x,d,Dw,k,res,hd,e=>by
  simp only[Hb,IT.step,Ed] at e;cases e0:rA h [.ptr (some (id,0)),.int .i64 x] with
  |none=>simp[e0] at e
  |some R0=>
  obtain⟨h1,r⟩:=R0;simp only[e0] at e;obtain⟨hh,gn,off,nn,cap,row,c,AZ,rfl,zc,uw,hc,NW,ZJ,NA,Yv,hrow,ZI,hk⟩:=wQ hi hm e0;simp only[IT.step] at e;rw[hh] at e;clear hh;cases e1:IT.run (B5 cx) n (B5 cx 182 [.CB row]) [] with
  |none=>simp[e1] at e
  |some R1=>
  simp only[e1] at e;split at e
  .rename_i r1 tv Jo;cases Jo;split at e
   .split at e
    .rename_i s Gv;split at e
     .rename_i hlen;have ih:∀(x:Int) (Dw:As) (k:As->IT) (res:Js),IT.step (B5 cx) (IT.run (B5 cx) n) (Hb 182 (.ptr (some (id,0))) fuel x (d+1) Dw k) h=some res->∃PS,IT.step (B5 cx) (IT.run (B5 cx) n) (k PS) h=some res/\tV g w0 x (d+1) Dw PS:=λx Dw k res e=>by obtain⟨PS,p,q,_⟩:=aW hs hi hg hm fuel x (d+1) Dw k res (by omega) e;exact⟨PS,p,q⟩
      have lG:∀W,Below w0.heap.size w0 W->Calls Proofs.Tryz.prog 182 #[.pointer (some ⟨gn,off+(x.toNat-1)*13,none⟩)] W λe W'=>e= .returned (.string ⟨⟨s⟩⟩)/\Below W.heap.size W W':=
       λW hb=>iu hs hi hg e1 hb hrow
      have GM:∀acc2,((c=0/\acc2=Dw++List.replicate (2*d) 32++s++[10])\/(c≠0/\tV g w0 c (d+1) (Dw++List.replicate (2*d) 32++s++[10]) acc2))->
        IT.step (B5 cx) (IT.run (B5 cx) n) (AZ.foldr (F_ fuel d (.ptr (some (id,0)))) k acc2) h=some res->∃PS,IT.step (B5 cx) (IT.run (B5 cx) n) (k PS) h=some res/\tV g w0 x d Dw PS/\∃p cap ln,w0.cell? ⟨g,0,none⟩=some (.slice p ln cap)/\1<=x/\x<=ln:=by
       intro acc2 lH e2;obtain⟨f,f0,f1,f2⟩:=aV ih AZ acc2 k res e2;exact⟨f AZ.length,f1,D_ zc uw hc NW ZJ NA Yv ZI hk (by omega) lG hlen lH f f0 f2,_,_,_,hc,NA,Yv⟩
      split at e;·rename_i E_;exact GM _ (.inl ⟨E_,rfl⟩) e
      .rename_i E_;obtain⟨acc2,p,q⟩:=ih _ _ _ _ e;exact GM acc2 (.inr ⟨E_,q⟩) p
     .cases e
    .cases e
   .cases e
  .cases e
end
set_option maxRecDepth 100000 in
set_option maxHeartbeats 2000000 in
theorem G_{w0:World}{g ln cap:Nat}{p:Option Addr}{x:Int}{s:As}(zc:g<w0.heap.size)(hc:w0.cell? ⟨g,0,none⟩=some (.slice p ln cap))(NA:1<=x)(Yv:x<=ln)(wT:tV g w0 x 0 [] s):
  Calls Proofs.Tryz.prog 34 #[.pointer (some ⟨g,0,none⟩),.int .i64 x] w0 λe w'=>e= .returned (.string ⟨⟨s⟩⟩)/\Below w0.heap.size w0 w':=by
 have d1:decide (1<=x/\x<=ln)=true:=AD ⟨NA,Yv⟩;have aJU:(w0.alloc (.cells #[.pointer none,.slice none 0 0] 151)).heap[w0.heap.size]?=some (.cells #[.pointer none,.slice none 0 0] 151 (0,0)):=World.alloc_heap_new w0 _;have Tp:Below w0.heap.size w0 (w0.alloc (.cells #[.pointer none,.slice none 0 0] 151)):=(Below.refl _ w0).alloc (Ac _) _;have l1:Lib.IsBuilder 151 5 w0.heap.size w0.heap.size (Lib.byteCells []) (w0.alloc (.cells #[.pointer none,.slice none 0 0] 151)):=
  .inl ⟨Ac _,.slice none 0 0,aJU,World.ownsRow_nil _ _ _ _,by simp[Value.ownBlock]⟩
 have Wy:=wT w0.heap.size w0.heap.size _ (Ac _) (by simp) Tp l1;rw[show((0:Nat):Int)=0 from rfl] at Wy;refine(callsIn_wide (n:=5)).1 ?_;refine callsIn_of_wp Proofs.Tryz.func34 rfl trivial ?_ rfl;simp only[Proofs.Tryz.ntmps34,B7,Bf,BU,Nat.reduceAdd,Nat.reduceSub,TJ,TK,dZ,Wp,BD,CC];gi_wp2
 refine⟨trivial,(callsIn_wide.2 (Xs g _ ln cap x _ hc)).mono ?_⟩;rintro e w' ⟨rfl,rfl⟩;rw[d1];gi_wp2
 refine⟨trivial,(callsIn_wide.2 Wy).mono ?_⟩;rintro e W2 ⟨⟨v,rfl⟩,l2,b2⟩;gi_wp2
 refine⟨trivial,(callsIn_wide.2 (Proofs.Tryz.Builder_String_any w0.heap.size w0.heap.size s _ l2 (by have:=b2.size;have:=Tp.size;omega))).mono ?_⟩;rintro e W3 ⟨rfl,b3⟩;gi_wp2
 refine bodyPost_ret (results_tmp rfl _ _ _) rfl ?_;exact⟨rfl,(Tp.trans b2).trans b3⟩
theorem H_{h:Ag}(n:Nat)(hs:EF cx (IT.run (B5 cx) n))(args:List Aa)(r:Aa)(h':Ag)(AV:IT.step (B5 cx) (IT.run (B5 cx) n) (lB 182 args) h=some (.ret,[r],h')):
  (∃fn c,cx.P.funcs[Ea 34]?=some fn/\(fn.name== "runtime.NumGoroutine")=false/\fn.body=some c)/\
  ∀(γ:Gh) (w:World) (cargs:Array Value),Gq γ h w->(∀g cs,cx.Gg g=some cs->CJ γ cs g 0)->Bb γ args cargs.toList->
   Calls cx.P (Ea 34) cargs w λe w'=>match e with
    | .returned v=>∃γ',Gq γ' h' w'/\J7 γ w γ' w'/\BH γ' r v/\(cx.Io 34=true->∃s c,HY γ' w.heap.size w' s c v r)
    |_=>False:=by
 refine⟨⟨_,_,Proofs.Tryz.func34,rfl,rfl⟩,λγ w cargs hi hg ha=>?_⟩;have aJV:∃id x,args=[.ptr (some (id,0)),.int .i64 x]:=by
  unfold lB at AV;split at AV;·rename_i a x;obtain⟨id,rfl⟩:=wU _ AV;exact⟨id,x,rfl⟩
  .cases AV
 obtain⟨id,x,rfl⟩:=aJV;obtain⟨v0,us,ud,⟨g,hm,rfl⟩,v1,us1,rfl,rfl,hnil⟩:=ha;cases hnil;have hcargs:cargs=#[.pointer (some ⟨g,0,none⟩),.int .i64 x]:=by apply Jm;simpa using ud
 subst hcargs;simp only[lB] at AV;obtain⟨Dw,e1,wT,p,cap,ln,hc,NA,Yv⟩:=aW hs hi hg hm 100 x 0 [] _ _ (by omega) AV;cases e1;refine(G_ (Dp hc) hc NA Yv wT).mono λe w' he=>?_;obtain⟨rfl,hb⟩:=he;obtain⟨TT,Nz⟩:=hi.Ka hb;exact⟨γ,TT,Nz,rfl,λe=>by cases e⟩
end Go.Am
end
section
namespace Go.Am
open Go
theorem iw:Yl cx:=by
 refine⟨λf hf=>?_,λf p hp n hs args h r h' AV=>?_⟩
 .simp only[cx,aDU] at hf;split at hf;·exact rC
  .cases hf
 .simp only[cx,uq] at hp;split at hp;·cases hp;exact H_ n hs args r h' AV
  .cases hp;exact zr n args r h' AV
  .cases hp;exact ir n args r h' AV
  .cases hp;exact ic n hs args r h' AV
  .cases hp
end Go.Am
end
