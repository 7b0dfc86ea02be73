/- Lemmas -/
import Derived.Test.YtgmhlaiafgkmeaaGreatDoorN16
import Derived.RangeFuncBox
import Derived.OwnWalkIn
import Derived.TacticsInMore
import Derived.LoopNIn
import Derived.Sort.LoopGhostIn
set_option linter.all false
section
namespace Go.Am
open Go Go.RowKit Go.Shelf
def M4(ga:Nat)(p:Option Addr)(n cap:Nat)(x:Int)(w:World)(hc:w.cell? ⟨ga,0,none⟩=some (.slice p n cap)):
  Calls Proofs.Tryz.prog 52 #[.pointer (some ⟨ga,0,none⟩),.int .i64 x] w λe w'=>e= .returned (.bool (decide (1<=x/\x<=n)))/\w=w':=by
 go_enter Proofs.Tryz.func52,Proofs.Tryz.ntmps52
 go_wp2
 all_goals refine bodyPost_ret (results_tmp rfl _ _ _) rfl ?_
 all_goals simp_all
 all_goals omega
def iZ(ga gn off n cap:Nat)(x:Int)(w:World)(hc:w.cell? ⟨ga,0,none⟩=some (.slice (some ⟨gn,off,none⟩) n cap))(h1:1<=x)(h2:x<=n)(HC:n<=cap)(hm:cap<=maxLen):
  Calls Proofs.Tryz.prog 54 #[.pointer (some ⟨ga,0,none⟩),.int .i64 x] w λe w'=>e= .returned (.pointer (some ⟨gn,off+(x.toNat-1)*13,none⟩))/\w=w':=by
 have hb:maxLen<=9223372036854775807:=by decide
 have hw:wrap64 (x-1)=x-1:=Go.IntWalk.wrap64_in _ ⟨by omega,by omega⟩;go_enter Proofs.Tryz.func54,Proofs.Tryz.ntmps54
 go_wp2
 all_goals refine bodyPost_ret (results_tmp rfl _ _ _) rfl ?_
 all_goals exact⟨rfl,rfl⟩
def i2(ga:Nat)(x:Int)(w:World):
  Calls Proofs.Tryz.prog 252 #[.pointer (some ⟨ga,0,none⟩),.int .i64 x,.bool true] w λe w'=>e= .returned (.func (.func 298) #[] #[.pointer (some ⟨w.heap.size+1,0,none⟩),.pointer (some ⟨w.heap.size,0,none⟩),.pointer (some ⟨w.heap.size+1+1,0,none⟩)])/\
   w'=((w.alloc (.cells #[.pointer (some ⟨ga,0,none⟩)] 37)).alloc (.cells #[.int .i64 x] 3)).alloc (.cells #[.bool true] 4):=by
 have bp:∀(fn:Fn) (first cap:Array Value) (w:World),(Instr.makeFunc fn first cap).run Proofs.Tryz.prog w= .ok (.func fn first cap) w:=λ_ _ _ _=>rfl;go_enter Proofs.Tryz.func252,Proofs.Tryz.ntmps252
 go_wp2
 go_ret
 exact⟨rfl,rfl⟩
def P5{cs:List Aa}{off n:Nat}{up:Int}{k:Nat}{b:Bool}(h:Hi cs off n up k 0=some b):b=false:=by cases k<;>simp[Hi] at h<;>exact h
def P6{cs:List Aa}{off n:Nat}{up x:Int}{k:Nat}{b:Bool}(h:Hi cs off n up k x=some b)(hx:x≠0):∃k',k=k'+1/\
  ((x=up/\b=true)\/(x≠up/\1<=x/\x<=n/\∃p q,Fb cs off x 1=some p/\Fb cs off x 12=some q/\Hi cs off n up k' (if p=0 then q else p)=some b)):=by
 cases k with
 |zero=>
  rw[Hi] at h;. cases h
  .exact λe=>hx e
 |succ k=>
  refine⟨k,rfl,?_⟩;rw[Hi] at h
  .split at h;.rename_i e;cases h;exact .inl ⟨e,rfl⟩
   .rename_i e;split at h
    .rename_i hr;split at h;.rename_i p q e1 e2;exact .inr ⟨e,hr.1,hr.2,p,q,e1,e2,h⟩
     .cases h
    .cases h
  .exact λe=>hx e
structure ON(Ba Bo ga gn off n cap:Nat)(cs:List Aa)(W:World):Prop where
 a:W.cell? ⟨Ba,0,none⟩=some (.pointer (some ⟨ga,0,none⟩))
 o:W.cell? ⟨Bo,0,none⟩=some (.bool true)
 c:W.cell? ⟨ga,0,none⟩=some (.slice (some ⟨gn,off,none⟩) n cap)
 x:∀(h:Int) (k:Nat) (v:Int),1<=h->h<=n->(k=1\/k=12)->Fb cs off h k=some v->W.cell? ⟨gn,off+(h.toNat-1)*13+k,none⟩=some (.int .i64 v)
def ON.GS{Ba Bo ga gn off n cap:Nat}{cs:List Aa}{A B:World}(h:ON Ba Bo ga gn off n cap cs A)(hk:∀b,b=Ba\/b=Bo\/b=ga\/b=gn->B.heap[b]?=A.heap[b]?):ON Ba Bo ga gn off n cap cs B:=
 ⟨by rw[AV (hk _ (by simp))];exact h.a,by rw[AV (hk _ (by simp))];exact h.o,by rw[AV (hk _ (by simp))];exact h.c,
  λx k v h1 h2 h3 h4=>by rw[AV (hk _ (by simp))];exact h.x x k v h1 h2 h3 h4⟩
def Re{Ba Bo ga gn off n cap Bh:Nat}{cs:List Aa}{A:World}{u:Value}{J:World->Prop}(hJ:∀A B row,J A->A.grownBy B row->(∀r,row=some r->r=Bh)->J B)
  (hd:∀b,b=Ba\/b=Bo\/b=ga\/b=gn->b≠Bh) (hs:ON Ba Bo ga gn off n cap cs A) (hc:A.cell? ⟨Bh,0,none⟩=some u) (hf:A.frozen? ⟨Bh,0,none⟩=false) (hj:J A) (v:Value):
  ON Ba Bo ga gn off n cap cs (A.setCell ⟨Bh,0,none⟩ v)/\(A.setCell ⟨Bh,0,none⟩ v).cell? ⟨Bh,0,none⟩=some v/\(A.setCell ⟨Bh,0,none⟩ v).frozen? ⟨Bh,0,none⟩=false/\J (A.setCell ⟨Bh,0,none⟩ v):=
 ⟨hs.GS λb hb=>Below.heap_setCell _ _ _ b (hd b hb),World.cell?_setCell_same _ _ _ hc,by rw[World.frozen?_setCell];exact hf,hJ _ _ _ hj (grownBy_setCell' A Bh v) λr e=>by cases e;rfl⟩
set_option maxRecDepth 100000 in
set_option maxHeartbeats 1600000 in
def i4(m l Bh Ba Bo n₁ ga gn off n cap:Nat)(cs:List Aa)(up:Int)(J Jx:World->Prop)
  (hJ:∀A B row,J A->A.grownBy B row->(∀r,row=some r->r=Bh)->J B)
  (hY:∀x W,J W->YieldAt Fence.wide (m-1) Proofs.Tryz.prog l #[.int .i64 x] W λe W'=>(e= .returned (.bool true)/\J W'/\Below n₁ W W'/\x≠up)\/(e= .returned (.bool false)/\Jx W'/\x=up))
  (hd:∀b,b=Ba\/b=Bo\/b=ga\/b=gn->b<n₁/\b≠Bh) (hBh:Bh<n₁) (HC:n<=cap) (hm:cap<=maxLen)
  (W:World) (x0:Int) (hs:ON Ba Bo ga gn off n cap cs W) (hh:W.cell? ⟨Bh,0,none⟩=some (.int .i64 x0)) (hf:W.frozen? ⟨Bh,0,none⟩=false)
  (fuel:Nat) (b:Bool) (hcl:Hi cs off n up fuel x0=some b) (h0:J W):
  CallsIn Fence.wide m Proofs.Tryz.prog 298 #[.func (.yield l) #[] #[],.pointer (some ⟨Bh,0,none⟩),.pointer (some ⟨Ba,0,none⟩),.pointer (some ⟨Bo,0,none⟩)] W λe W'=>(∃v,e= .returned v)/\((b=false/\J W')\/(b=true/\Jx W')):=by
 refine callsIn_of_wp Proofs.Tryz.func298 rfl trivial ?_ rfl;simp only[Proofs.Tryz.ntmps298,AE,AF,A4,Nat.reduceAdd,Nat.reduceSub,EE,EF,FU,EW,Bi,Cz];gi_wp2
 gi_loopg [] fuel (λk wr=>∃x,Hi cs off n up k x=some b/\ON Ba Bo ga gn off n cap cs wr/\wr.cell? ⟨Bh,0,none⟩=some (.int .i64 x)/\wr.frozen? ⟨Bh,0,none⟩=false/\J wr)
 case atStart=>exact⟨x0,hcl,hs,hh,hf,h0⟩
 case round=>
  obtain⟨x,hcl,hs,hh,hf,hj⟩:=hrel;by_cases hx:x=0
  .subst hx;have:=P5 hcl;subst this;gi_wp2
   refine⟨nofun,?_⟩;gi_wp2
   go_end0
   exact⟨⟨_,rfl⟩,hj⟩
  .obtain⟨k',rfl,DY⟩:=P6 hcl hx;have hne:(x != 0)=true:=by simp[hx]
   obtain⟨fn,tmps,assign,body,hy,hR⟩:=hY x wr hj;gi_wp2
   refine⟨nofun,?_⟩;refine hR.mono ?_;rintro e W3 (⟨rfl,hJ3,Pm,tO⟩|⟨rfl,hJx3,tO⟩)
   .rcases DY with⟨rfl,_⟩|⟨_,h1,h2,p,q,e1,e2,bX⟩
    .exact absurd rfl tO
    have fY:=hs.GS λb hb=>Pm.block b (hd b hb).1;have cp:W3.cell? ⟨Bh,0,none⟩=some (.int .i64 x):=by rw[AV (Pm.block Bh hBh)];exact hh
    have cq:W3.frozen? ⟨Bh,0,none⟩=false:=by rw[<-hf];simp only[World.frozen?,Pm.block Bh hBh]
    have hp:=fY.x x 1 p h1 h2 (.inl rfl) e1;have hq:=fY.x x 12 q h1 h2 (.inr rfl) e2;have jt:=fY.a;have ju:=fY.o;have nBo:¬Bo=Bh:=(hd Bo (by simp)).2;have ngn:¬gn=Bh:=(hd gn (by simp)).2;gi_wp2
    refine⟨trivial,nofun,(callsIn_wide.2 (iZ ga gn off n cap x _ fY.c h1 h2 HC hm)).mono ?_⟩;rintro e w' ⟨rfl,rfl⟩;obtain⟨s4,c4,z4,j4⟩:=Re hJ (λb hb=>(hd b hb).2) fY cp cq hJ3 (.int .i64 p);by_cases aX:p=0
    .subst aX;obtain⟨s5,c5,z5,j5⟩:=Re hJ (λb hb=>(hd b hb).2) s4 c4 z4 j4 (.int .i64 q);gi_wp2
     gi_roundg k'
     case measure=>omega
     case rel=>exact⟨q,bX,s5,c5,z5,j5⟩
    .have ag:(p==0)=false:=by simp[aX]
     gi_wp2
     gi_roundg k'
     case measure=>omega
     case rel=>exact⟨p,by rw[if_neg aX] at bX;exact bX,s4,c4,z4,j4⟩
   .rcases DY with⟨_,rfl⟩|⟨tP,_⟩
    .gi_wp2
     go_end0
     exact⟨⟨_,rfl⟩,hJx3⟩
    .exact absurd tO tP
def bY(n₁:Nat)(up:Int)(I Ix:World->Prop)(x:Int)(W:World):Exit->Act->World->Prop
 | .normal,_,W'=>KeepsOthers W W'/\Below n₁ W W'/\I W'/\x≠up
 | .ret,_,W'=>KeepsOthers W W'/\Ix W'/\x=up
 | .exit _,_,_=>False
 | .goto _,_,_=>False
 | .panic _,_,_=>False
 | .outgrown,_,_=>False
def NV{P:Program}{n gf:Nat}{lb:Array Value}{g:Operand}{ps:Array Tmp}{assign body:Code}{Q:Exit->Act->World->Prop}{a:Act}{w:World}(Bh:Nat)(b:Bool)(up:Int)
  (hg:a.eval g= .func (.func gf) #[] lb) (eg:∀args w,(callFunc gf args).run P w= .ok (.enter gf args) w) (hBh:Bh<w.heap.size)
  (bZ:∀(l:Nat) (J Jx:World->Prop) (W:World),Below w.heap.size w W->(∀A B row,J A->A.grownBy B row->(∀r,row=some r->r=Bh)->J B)->
   (∀x W1,J W1->YieldAt Fence.wide (n-1 -1) P l #[.int .i64 x] W1 λe W'=>(e= .returned (.bool true)/\J W'/\Below w.heap.size W1 W'/\x≠up)\/(e= .returned (.bool false)/\Jx W'/\x=up))->J W->
   CallsIn Fence.wide (n-1) P gf (#[.func (.yield l) #[] #[]]++lb) W λe W'=>(∃v,e= .returned v)/\((b=false/\J W')\/(b=true/\Jx W')))
  (VP:ps.size=1) (I Ix:World->Prop) (hI:∀A B row,I A->A.grownBy B row->(∀r,row=some r->r=Bh\/w.heap.size<=r)->I B)
  (hIx:∀A B row,Ix A->A.grownBy B row->(∀r,row=some r->r=Bh\/w.heap.size<=r)->Ix B) (h0:I w) (a₁:Int->Act)
  (hassign:∀(l:Nat) (x:Int) (W:World) (K:Act->World->Prop),K (a₁ x) W->
   assign.wpIn (Fence.wide.inRound l) (n-1 -1) P (Exit.then K (λ_ _ _=>False)) {tmps:=(ps.zip #[.int .i64 x]).foldl (λt (p,v)=>t.setIfInBounds p v) a.tmps,defers:=[]} W)
  (L4:∀(l:Nat) (x:Int) (W:World),I W->body.wpIn (Fence.wide.inRound l) (n-1 -1) P (bY w.heap.size up I Ix x W) (a₁ x) W)
  (Uh:∀(D:Nat) (W:World),b=false->I W->W.heap[D]?=some (.deferred (some []))->w.heap.size<=D->Q .normal {a with defers:={target:= .collected D,args:=#[]}::a.defers} W)
  (Ui:∀(D:Nat) (W:World),b=true->Ix W->W.heap[D]?=some (.deferred (some []))->w.heap.size<=D->Code.ret.wpIn Fence.wide n P Q {a with defers:={target:= .collected D,args:=#[]}::a.defers} W):
  (Code.rangeFunc g ps assign body).wpIn Fence.wide n P Q a w:=by
 refine wpIn_rangeFunc ?_;intro fn VM;have hro:Fence.wide.round=none:=rfl;rw[hro];obtain⟨rec,K6⟩:∃rec:LoopState->Option Code->Loop,rec=λst pe=>{state:=st,pending:=pe,fn,tmps:=a.tmps,params:=ps,assign,body,defers:=w.heap.size}:=⟨_,rfl⟩;obtain⟨W1,hW1⟩:∃W1,(w.alloc (.deferred (some []))).alloc (.loop (rec .ready none))=W1:=⟨_,rfl⟩;have hL1:W1.heap[w.heap.size+1]?=some (.loop (rec .ready none)):=by rw[<-hW1];have:=World.alloc_heap_new (w.alloc (.deferred (some []))) (.loop (rec .ready none));rwa [World.size_alloc] at this
 have hK1:W1.heap[w.heap.size]?=some (.deferred (some [])):=by rw[<-hW1];exact(Below.heap_alloc _ _ _ (by simp)).trans (World.alloc_heap_new w _)
 have hI1:I W1:=by rw[<-hW1];exact hI _ _ none (hI _ _ none h0 (World.grownBy_alloc _ _ none) nofun) (World.grownBy_alloc _ _ none) nofun
 have Q7:Below w.heap.size w W1:=by rw[<-hW1];exact(((Below.refl _ w).alloc (Ap _) _).alloc (by simp) _)
 refine⟨w.heap.size+1,[{target:= .collected w.heap.size,args:=#[]}],W1,{target:= .fn (.func gf) lb,args:=#[.func (.yield (w.heap.size+1)) #[] #[]]},W1,gf,
  #[.func (.yield (w.heap.size+1)) #[] #[]]++lb,W1,?_,?_,?_,?_,nofun,?_⟩
 .rw[<-hW1,K6];exact run_enterLoop_outer _ _ _ _ _
 .simp only[resolve,hg];simp[go_sem]
 .intro f' VQ;trivial
 .simp[invoke,go_sem,eg]
 .refine(bZ (w.heap.size+1)
   (λW=>I W/\W.heap[w.heap.size+1]?=some (.loop (rec .ready none))/\W.heap[w.heap.size]?=some (.deferred (some [])))
   (λW=>Ix W/\W.heap[w.heap.size+1]?=some (.loop (rec .done (some .ret)))/\W.heap[w.heap.size]?=some (.deferred (some [])))
   W1 Q7
   (λA B row hs tQ hr=>⟨hI A B row hs.1 tQ (λr e=> .inl (hr r e)),(tQ.block _ (Ae.1 hs.2.1).1 (λe=>by have:=hr _ e.symm;omega)).trans hs.2.1,
    (tQ.block _ (Ae.1 hs.2.2).1 (λe=>by have:=hr _ e.symm;omega)).trans hs.2.2⟩)
   ?_ ⟨hI1,hL1,hK1⟩).mono ?_
  .rintro x W ⟨hi,hl,hk⟩;have hlt:w.heap.size+1<W.heap.size:=(Ae.1 hl).1;have hy:=run_yield (P:=P) (args:=#[.int .i64 x]) hl (by rw[K6];exact VP.symm);rw[K6] at hy;refine⟨fn,_,assign,body,hy,roundIn_of_wpIn VM (hassign _ x W _ ⟨_,run_beginRound hl (by rw[K6]),?_⟩)⟩;have w9:(W.putObj (w.heap.size+1) (.loop {rec .ready none with state:= .busy})).heap[w.heap.size+1]?=some (.loop {rec .ready none with state:= .busy}):=World.putObj_heap_same hlt;have NJ:(W.putObj (w.heap.size+1) (.loop {rec .ready none with state:= .busy})).heap[w.heap.size]?=some (.deferred (some [])):=(World.putObj_heap_other (by omega)).trans hk;have T1:Below w.heap.size W (W.putObj (w.heap.size+1) (.loop {rec .ready none with state:= .busy})):=belowK_b (Ap _) W _ _ _ (by omega) hl rfl rfl;refine wpIn_mono (L4 _ x _ (hI _ _ _ hi (grownBy_putObj' W _ _) (λr e=> .inr (by cases e;omega)))) ?_;have Hh:∀(jump:Option Code) (W3:World),KeepsOthers (W.putObj (w.heap.size+1) (.loop {rec .ready none with state:= .busy})) W3->
     (Instr.endRound (w.heap.size+1) jump).run P W3= .ok (.bool jump.isNone) (W3.putObj (w.heap.size+1) (.loop (rec (if jump.isNone then .ready else .done) jump)))/\
     W3.heap[w.heap.size+1]?=some (.loop {rec .ready none with state:= .busy})/\
     (W3.putObj (w.heap.size+1) (.loop (rec (if jump.isNone then .ready else .done) jump))).heap[w.heap.size+1]?=some (.loop (rec (if jump.isNone then .ready else .done) jump))/\
     (W3.putObj (w.heap.size+1) (.loop (rec (if jump.isNone then .ready else .done) jump))).heap[w.heap.size]?=some (.deferred (some [])):=λjump W3 Pm=>by
    have V6:=Pm.same _ _ w9 rfl;have:=run_endRound (P:=P) jump V6;rw[K6] at this⊢;exact⟨this,by rw[K6] at V6;exact V6,World.putObj_heap_same (Ae.1 V6).1,(World.putObj_heap_other (by omega)).trans (Pm.same _ _ NJ rfl)⟩
   rintro e a3 W3 hp;cases e with
   |normal=>obtain⟨Pm,tR,bT,hne⟩:=hp;obtain⟨hr,V6,tS,V7⟩:=Hh none W3 Pm;exact⟨_,_,hr,.inl ⟨rfl,⟨hI _ _ _ bT (grownBy_putObj' W3 _ _) (λr e=> .inr (by cases e;omega)),tS,V7⟩,(T1.trans tR).trans (belowK_b (Ap _) W3 _ _ _ (by omega) V6 rfl rfl),hne⟩⟩
   |ret=>obtain⟨Pm,bT,he⟩:=hp;obtain⟨hr,V6,tS,V7⟩:=Hh (some .ret) W3 Pm;exact⟨_,_,hr,.inr ⟨rfl,⟨hIx _ _ _ bT (grownBy_putObj' W3 _ _) (λr e=> .inr (by cases e;omega)),tS,V7⟩,he⟩⟩
   |exit id=>exact hp.elim
   |goto t=>exact hp.elim
   |panic ch=>exact hp.elim
   |outgrown=>exact hp.elim
  .rintro e W2 ⟨⟨v,rfl⟩,⟨hb,hi,hl,hk⟩|⟨hb,hi,hl,hk⟩⟩;.exact⟨none,_,by have:=run_endLoop (P:=P) hl (by rw[K6];simp);rw[K6] at this;exact this,Uh _ _ hb (hI _ _ _ hi (grownBy_putObj' W2 _ _) (λr e=> .inr (by cases e;omega))) ((World.putObj_heap_other (by omega)).trans hk) (Ap _)⟩
   .exact⟨some .ret,_,by have:=run_endLoop (P:=P) hl (by rw[K6];simp);rw[K6] at this;exact this,Ui _ _ hb (hIx _ _ _ hi (grownBy_putObj' W2 _ _) (λr e=> .inr (by cases e;omega))) ((World.putObj_heap_other (by omega)).trans hk) (Ap _)⟩
def AZ{W:World}{k j:Nat}{v:Value}(o:Obj)(h:W.cell? ⟨k,j,none⟩=some v):(W.alloc o).cell? ⟨k,j,none⟩=some v:=by rw[World.cell?_alloc_past _ _ _ (BB h)];exact h
def E2{W:World}{k j:Nat}{v:Value}(o:Obj)(h:W.cell? ⟨k,j,none⟩=some v):(W.alloc o).frozen? ⟨k,j,none⟩=W.frozen? ⟨k,j,none⟩:=
 World.frozen?_alloc_past _ _ _ (BB h)
def Fx(W:World)(v:Value)(t:TypeId):(W.alloc (.cells #[v] t)).cell? ⟨W.heap.size,0,none⟩=some v/\(W.alloc (.cells #[v] t)).frozen? ⟨W.heap.size,0,none⟩=false:=by
 have h:(W.alloc (.cells #[v] t)).heap[W.heap.size]?=some (.cells #[v] t (0,0)):=World.alloc_heap_new W _;constructor;.simp only[World.cell?,h];rfl
 .simp only[World.frozen?,h];rfl
def L9{A B:World}{row:Option Nat}{k:Nat}{v:Value}(h:A.cell? ⟨k,0,none⟩=some v)(hg:A.grownBy B row)(hr:∀r,row=some r->k≠r):
  B.cell? ⟨k,0,none⟩=some v/\B.frozen? ⟨k,0,none⟩=A.frozen? ⟨k,0,none⟩:=by
 have hb:B.heap[k]?=A.heap[k]?:=hg.block k (BB h) (λe=>hr k e.symm rfl);exact⟨by rw[AV hb];exact h,by simp only[World.frozen?,hb]⟩
set_option maxRecDepth 100000 in
set_option maxHeartbeats 2000000 in
def cA(ga gn off n cap:Nat)(cs:List Aa)(up x:Int)(w:World)(tT:ga<w.heap.size)(ZY:gn<w.heap.size)(HC:n<=cap)(hm:cap<=maxLen)
  (hc:w.cell? ⟨ga,0,none⟩=some (.slice (some ⟨gn,off,none⟩) n cap))
  (hx:∀(h:Int) (k:Nat) (v:Int),1<=h->h<=n->(k=1\/k=12)->Fb cs off h k=some v->w.cell? ⟨gn,off+(h.toNat-1)*13+k,none⟩=some (.int .i64 v))
  (b:Bool) (hcl:Hi cs off n up (n+1) x=some b) (rZ:1<=up) (fZ:up<=n) (Rf:1<=x) (Uj:x<=n):
  Calls Proofs.Tryz.prog 186 #[.pointer (some ⟨ga,0,none⟩),.int .i64 up,.int .i64 x] w λe w'=>e= .returned (.bool b)/\Below w.heap.size w w':=by
 refine(callsIn_wide (n:=5)).1 ?_;refine callsIn_of_wp_marks Proofs.Tryz.func186 rfl trivial ?_;simp only[Proofs.Tryz.ntmps186,AE,AF,A4,Nat.reduceAdd,Nat.reduceSub,EE,EF,FU,EW,Bi,Cz];have c0:((w.alloc (.cells #[.int .i64 up] 3)).alloc (.cells #[.bool false] 4)).cell? ⟨ga,0,none⟩=some (.slice (some ⟨gn,off,none⟩) n cap):=by rw[World.cell?_alloc_past _ _ _ (by simp;omega),World.cell?_alloc_past _ _ _ tT];exact hc
 have n1:=Fx w (.int .i64 up) 3;have n2:=Fx (w.alloc (.cells #[.int .i64 up] 3)) (.bool false) 4;have n3:=Fx ((w.alloc (.cells #[.int .i64 up] 3)).alloc (.cells #[.bool false] 4)) (.pointer (some ⟨ga,0,none⟩)) 37;have n4:=Fx (((w.alloc (.cells #[.int .i64 up] 3)).alloc (.cells #[.bool false] 4)).alloc (.cells #[.pointer (some ⟨ga,0,none⟩)] 37)) (.int .i64 x) 3;have n5:=Fx ((((w.alloc (.cells #[.int .i64 up] 3)).alloc (.cells #[.bool false] 4)).alloc (.cells #[.pointer (some ⟨ga,0,none⟩)] 37)).alloc (.cells #[.int .i64 x] 3)) (.bool true) 4;simp only[World.size_alloc] at n2 n3 n4 n5;have d1:decide (1<=up/\up<=n)=true:=Ml ⟨rZ,fZ⟩;have d2:decide (1<=x/\x<=n)=true:=Ml ⟨Rf,Uj⟩;gi_wp2
 refine⟨trivial,(callsIn_wide.2 (M4 ga _ n cap up _ c0)).mono ?_⟩;rintro e w' ⟨rfl,rfl⟩;rw[d1];gi_wp2
 refine⟨trivial,(callsIn_wide.2 (M4 ga _ n cap x _ c0)).mono ?_⟩;rintro e w' ⟨rfl,rfl⟩;rw[d2];gi_wp2
 refine⟨trivial,(callsIn_wide.2 (i2 ga x _)).mono ?_⟩;rintro e w' ⟨rfl,rfl⟩;gi_wp2
 refine NV (gf:=298) (lb:=#[.pointer (some ⟨w.heap.size+1+1+1,0,none⟩),.pointer (some ⟨w.heap.size+1+1,0,none⟩),.pointer (some ⟨w.heap.size+1+1+1+1,0,none⟩)]) (w.heap.size+1+1+1) b up rfl (Go.Proofs.enters_of Proofs.Tryz.func298 (by kernel_rfl) rfl) (by simp)
  ?bZ rfl
  (λW=>Below w.heap.size w W/\W.cell? ⟨w.heap.size,0,none⟩=some (.int .i64 up)/\W.cell? ⟨w.heap.size+1,0,none⟩=some (.bool false)/\W.frozen? ⟨w.heap.size+1,0,none⟩=false)
  (λW=>Below w.heap.size w W/\W.cell? ⟨w.heap.size+1,0,none⟩=some (.bool true)) ?hI ?hIx ?h0
  (λy=>{tmps:=#[.pointer (some ⟨ga,0,none⟩),.int .i64 up,.int .i64 x,undef,.pointer (some ⟨w.heap.size,0,none⟩),undef,.pointer (some ⟨w.heap.size+1,0,none⟩),.int .i64 y,.pointer (some ⟨ga,0,none⟩),.int .i64 up,.bool true,.bool false,.bool false,.pointer (some ⟨ga,0,none⟩),.int .i64 x,.bool true,.bool false,.bool false,.pointer (some ⟨ga,0,none⟩),.int .i64 x,.func (.func 298) #[] #[.pointer (some ⟨w.heap.size+1+1+1,0,none⟩),.pointer (some ⟨w.heap.size+1+1,0,none⟩),.pointer (some ⟨w.heap.size+1+1+1+1,0,none⟩)],.int .i64 y,undef,undef,undef],defers:=[]})
  ?hassign ?L4 ?Uh ?Ui
 case hI=>rintro A B row ⟨h1,h2,h3,h4⟩ hg hr;have gS:=BB h3;have k1:=L9 h2 hg (λr e=>by rcases hr r e with rfl|h<;>simp at* <;>omega);have k2:=L9 h3 hg (λr e=>by rcases hr r e with rfl|h<;>simp at* <;>omega);exact⟨h1.grown hg (by omega) (λk e=>by rcases hr k e with rfl|h<;>simp at* <;>omega),k1.1,k2.1,k2.2.trans h4⟩
 case hIx=>rintro A B row ⟨h1,h3⟩ hg hr;have gS:=BB h3;have k2:=L9 h3 hg (λr e=>by rcases hr r e with rfl|h<;>simp at* <;>omega);exact⟨h1.grown hg (by omega) (λk e=>by rcases hr k e with rfl|h<;>simp at* <;>omega),k2.1⟩
 case h0=>
  refine⟨(((((Below.refl _ w).alloc (Ap _) _).alloc (by simp) _).alloc (by simp;omega) _).alloc (by simp;omega) _).alloc (by simp;omega) _,?_,?_,?_⟩;.exact AZ _ (AZ _ (AZ _ (AZ _ n1.1)))
  .exact AZ _ (AZ _ (AZ _ n2.1))
  .rw[E2 _ (AZ _ (AZ _ n2.1)),E2 _ (AZ _ n2.1),E2 _ n2.1];exact n2.2
 case bZ=>
  intro l J Jx W hW hJ hY hj;have kk:∀{k j:Nat} {v:Value},(((((w.alloc (.cells #[.int .i64 up] 3)).alloc (.cells #[.bool false] 4)).alloc (.cells #[.pointer (some ⟨ga,0,none⟩)] 37)).alloc (.cells #[.int .i64 x] 3)).alloc (.cells #[.bool true] 4)).cell? ⟨k,j,none⟩=some v->W.cell? ⟨k,j,none⟩=some v:=
   λ{k j v} h=>by rw[AV (hW.block k (BB h))];exact h
  have hs:ON (w.heap.size+1+1) (w.heap.size+1+1+1+1) ga gn off n cap cs W:=
   ⟨kk (AZ _ (AZ _ n3.1)),kk n5.1,kk (AZ _ (AZ _ (AZ _ c0))),λh k v h1 h2 h3 h4=>kk (AZ _ (AZ _ (AZ _ (AZ _ (AZ _ (hx h k v h1 h2 h3 h4))))))⟩
  refine i4 4 l (w.heap.size+1+1+1) (w.heap.size+1+1) (w.heap.size+1+1+1+1) _ ga gn off n cap cs up J Jx hJ hY ?_ (by simp) HC hm W x hs (kk (AZ _ n4.1)) ?_ (n+1) b hcl hj;.rintro b (rfl|rfl|rfl|rfl)<;>simp<;>omega
  .have:W.frozen? ⟨w.heap.size+1+1+1,0,none⟩=_:=World.frozen?_of_block (hW.block (w.heap.size+1+1+1) (by simp));rw[this,E2 _ n4.1];exact n4.2
 case hassign=>
  intro l y W K hK;have tU:=Oper.semAt_some l;gi_wp2
  exact hK
 case L4=>
  rintro l y W ⟨hb,S1,LM,SZ⟩;have tU:=Oper.semAt_some l;gi_wp2
  .rename_i he;obtain rfl:y=up:=eq_of_beq he;exact⟨KeepsOthers.setCell _ _ _,⟨hb.setCell (GH _) _,World.cell?_setCell_same _ _ _ LM⟩,rfl⟩
  .rename_i he;exact⟨KeepsOthers.refl _,Below.refl _ _,⟨hb,S1,LM,SZ⟩,λe=>by subst e;simp at he⟩
 case Uh=>
  rintro D W rfl ⟨hb,S1,LM,SZ⟩ hK hD;gi_wp2
  have hK':=(KeepsOthers.setCell W ⟨w.heap.size+1,0,none⟩ (.bool false)).same D _ hK rfl;have tV:=cell_kept (World.cell?_setCell_same W ⟨w.heap.size+1,0,none⟩ (.bool false) LM) (grownBy_putObj' _ D (.deferred none)) (λr e=>by cases e;exact⟨_,hK',rfl⟩);refine⟨by simp,.inl ⟨_,_,rfl,run_takeDeferred hK',?_⟩⟩;refine⟨.bool false,?_,rfl,(hb.setCell (GH _) _).grown (grownBy_putObj' _ D _) (by have:=BB LM;simp;omega) (λk e=>by cases e;simp at hD;omega)⟩;simp[results,Proofs.Tryz.f186,go_sem,tV]
 case Ui=>
  rintro D W rfl ⟨hb,LM⟩ hK hD;gi_wp2
  have tV:=cell_kept LM (grownBy_putObj' _ D (.deferred none)) (λr e=>by cases e;exact⟨_,hK,rfl⟩);refine⟨by simp,.inl ⟨_,_,rfl,run_takeDeferred hK,?_⟩⟩;refine⟨.bool true,?_,rfl,hb.grown (grownBy_putObj' _ D _) (by have:=BB LM;omega) (λk e=>by cases e;simp at hD;omega)⟩;simp[results,Proofs.Tryz.f186,go_sem,tV]
set_option maxRecDepth 100000 in
set_option maxHeartbeats 2000000 in
def Ma(ga:Nat)(p:Option Addr)(n cap:Nat)(up x:Int)(w:World)(hc:w.cell? ⟨ga,0,none⟩=some (.slice p n cap))(ho:¬(1<=up/\up<=n/\1<=x/\x<=n)):
  Calls Proofs.Tryz.prog 186 #[.pointer (some ⟨ga,0,none⟩),.int .i64 up,.int .i64 x] w λe w'=>e= .returned (.bool false)/\Below w.heap.size w w':=by
 have c0:((w.alloc (.cells #[.int .i64 up] 3)).alloc (.cells #[.bool false] 4)).cell? ⟨ga,0,none⟩=some (.slice p n cap):=AZ _ (AZ _ hc);have n2:=Fx (w.alloc (.cells #[.int .i64 up] 3)) (.bool false) 4;simp only[World.size_alloc] at n2;have hb:Below w.heap.size w ((w.alloc (.cells #[.int .i64 up] 3)).alloc (.cells #[.bool false] 4)):=((Below.refl _ w).alloc (Ap _) _).alloc (by simp) _;refine(callsIn_wide (n:=5)).1 ?_;refine callsIn_of_wp Proofs.Tryz.func186 rfl trivial ?_ rfl;simp only[Proofs.Tryz.ntmps186,AE,AF,A4,Nat.reduceAdd,Nat.reduceSub,EE,EF,FU,EW,Bi,Cz];by_cases h1:1<=up/\up<=n
 .have d1:decide (1<=up/\up<=n)=true:=Ml h1;have d2:decide (1<=x/\x<=n)=false:=D8 λh2=>ho ⟨h1.1,h1.2,h2.1,h2.2⟩;gi_wp2
  refine⟨trivial,(callsIn_wide.2 (M4 ga _ n cap up _ c0)).mono ?_⟩;rintro e w' ⟨rfl,rfl⟩;rw[d1];gi_wp2
  refine⟨trivial,(callsIn_wide.2 (M4 ga _ n cap x _ c0)).mono ?_⟩;rintro e w' ⟨rfl,rfl⟩;rw[d2];gi_wp2
  refine bodyPost_ret (v:= .bool false) ?_ rfl ⟨rfl,hb⟩;simp[results,Proofs.Tryz.f186,go_sem,n2.1]
 .have d1:decide (1<=up/\up<=n)=false:=D8 h1;gi_wp2
  refine⟨trivial,(callsIn_wide.2 (M4 ga _ n cap up _ c0)).mono ?_⟩;rintro e w' ⟨rfl,rfl⟩;rw[d1];gi_wp2
  refine⟨trivial,?_⟩;gi_wp2
  refine bodyPost_ret (v:= .bool false) ?_ rfl ⟨rfl,hb⟩;simp[results,Proofs.Tryz.f186,go_sem,n2.1]
section
variable{h:Ab}
def NW{cs:List Aa}{off:Nat}{x:Int}{k:Nat}{v:Int}(e:Fb cs off x k=some v):cs[off+(x.toNat-1)*13+k]?=some (.int .i64 v):=by
 unfold Fb at e;split at e;.rename_i hh;cases e;exact hh
 .cases e
def V8(n:Nat)(args:List Aa)(r:Aa)(h':Ab)(Ad:IT.step (AH cx) (IT.run (AH cx) n) (Kc args) h=some (.ret,[r],h')):
  (∃fn c,cx.P.funcs[B4 186]?=some fn/\(fn.name== "runtime.NumGoroutine")=false/\fn.body=some c)/\
  ∀(U:Gh) (w:World) (cargs:Array Value),Dp U h w->(∀g cs,cx.C8 g=some cs->Bb U cs g 0)->Ai U args cargs.toList->
   Calls cx.P (B4 186) cargs w λe w'=>match e with
    | .returned v=>∃U',Dp U' h' w'/\FC U w U' w'/\Au U' r v/\(cx.Et 186=true->∃s c,D2 U' w.heap.size w' s c v r)
    |_=>False:=by
 refine⟨⟨_,_,Proofs.Tryz.func186,rfl,rfl⟩,λU w cargs hi hg ha=>?_⟩;simp only[Kc,IT.step,Je] at Ad;cases e0:Kb h args with
 |none=>simp[e0] at Ad
 |some R0=>
 obtain⟨h1,r1⟩:=R0;simp only[e0] at Ad;cases Ad;have Hh:∀(b:Bool) (cs:Array Value),h'=h->r= .bool b->Calls Proofs.Tryz.prog 186 cs w (λe w'=>e= .returned (.bool b)/\Below w.heap.size w w')->
   Calls cx.P (B4 186) cs w λe w'=>match e with
    | .returned v=>∃U',Dp U' h' w'/\FC U w U' w'/\Au U' r v/\(cx.Et 186=true->∃s c,D2 U' w.heap.size w' s c v r)
    |_=>False:=by
  rintro b cs rfl rfl hc;refine hc.mono λe w' he=>?_;obtain⟨rfl,hb⟩:=he;obtain⟨Pl,N8⟩:=hi.FG hb;exact⟨U,Pl,N8,rfl,λe=>by cases e⟩
 unfold Kb at e0;split at e0
 .rename_i id up x;obtain⟨v0,us,ZL,⟨g,hm,rfl⟩,v1,fM,rfl,rfl,v2,Pv,rfl,rfl,hnil⟩:=ha;cases hnil;have hcargs:cargs=#[.pointer (some ⟨g,0,none⟩),.int .i64 up,.int .i64 x]:=by apply Dh;simpa using ZL
  subst hcargs;split at e0;.rename_i l hc;cases e0;obtain⟨_,y,hy,ry⟩:=hi.JB hc hm (j:=0) rfl;cases ry;exact Hh false _ rfl rfl (Ma g none 0 0 up x w hy (by omega))
  .rename_i nid off len l hc;split at e0
   .rename_i cs hcs;split at e0
    .rename_i hl;obtain⟨_,y,hy,gn,cap,ZR,rfl,q1,⟨q2,q3⟩,q4⟩:=hi.JB hc hm (j:=0) rfl;have tT:g<w.heap.size:=BB hy;have ZY:gn<w.heap.size:=by obtain⟨⟨us,e,fr,p1,p2⟩,_⟩:=hi.sz gn _ q4;exact(Ae.1 p1).1
     split at e0
     .rename_i hr;cases e1:Hi cs off len up (len+1) x with
      |none=>simp[e1] at e0
      |some b=>simp only[e1,A3,AG,Gq] at e0;obtain⟨rfl,rfl⟩:=e0;refine Hh b _ rfl rfl (cA g gn off len cap cs up x w tT ZY q1 q3 hy (λt k v h1 h2 h3 h4=>?_) b e1 hr.1 hr.2.1 hr.2.2.1 hr.2.2.2);obtain⟨_,z,hz,rz⟩:=hi.JB hcs ZR (NW h4);cases rz;exact hz
     .rename_i hr;cases e0;exact Hh false _ rfl rfl (Ma g _ len cap up x w hy hr)
    .cases e0
   .cases e0
  .cases e0
 .cases e0
end
def Hj{T e:TypeId}{B b:Nat}{bs:List Value}{W W':World}(h:Lib.IsBuilder T e B b bs W)(hb:Below W.heap.size W W'):Lib.IsBuilder T e B b bs W':=by
 have key:∀p,Lib.BuilderAt T e B b p bs W->Lib.BuilderAt T e B b p bs W':=λp ⟨hB,v,qM,Ct,hne⟩=>by refine⟨hB,v,(hb.block b (Ae.1 qM).1).trans qM,?_,hne⟩;exact Ct.kept (row:=none) ⟨hb.os,hb.tape,hb.output,hb.size,λk hk _=>hb.block k hk⟩ (Classical.em _)
 exact h.imp (key _) (key _)
def ET(a b:List UInt8):Lib.byteCells (a++b)=Lib.byteCells a++Lib.byteCells b:=by simp[Lib.byteCells]
def byteCells_length(a:List UInt8):(Lib.byteCells a).length=a.length:=by simp[Lib.byteCells]
def P7(d:Nat):Lib.repeatL [32,32] d=List.replicate (2*d) 32:=by
 induction d with
 |zero=>rfl
 |succ d ih=>rw[Lib.repeatL,ih,show 2*(d+1)=2*d+1+1 by omega,EV,EV];rfl
def P8:∀a:Aa,a.FW=true->a.still=true
 | .bool _,_=>rfl
 | .int _ _,_=>rfl
 | .str _,_=>rfl
 |a,h=>by cases a<;>first|rfl|simp[Aa.FW] at h
def KO:∀l:List Aa,l.all Aa.FW=true->Eg l=true
 |[],_=>rfl
 |a::l,h=>by simp only[Nh,Ao] at h;simp only[Eg,Ao];exact⟨P8 a h.1,KO l h.2⟩
section
variable{U:Gh}{h:Ab}{w:World}
def OO(hi:Dp U h w){id g:Nat}{cs:List Aa}(hc:h[id]?=some (.cells cs))(hm:U.mu id=some g):∀(n o:Nat),o+n<=cs.length->F7 (A8 cs 1 o n)=true->
  (A8 cs 1 o n).length=n/\B3 (CK w) (A8 cs 1 o n) 1 g o
 |0,o,_,_=>⟨rfl,trivial⟩
 |n+1,o,hl,hs=>by
  have hlt:o<cs.length:=by omega
  have e1:(cs.drop o).take 1=[cs[o]]:=by rw[Bs hlt];rfl
  have Oe:Eg ((cs.drop o).take 1)=true/\F7 (A8 cs 1 (o+1) n)=true:=by simpa only[A8,F7,Ao] using hs
  obtain⟨p,q⟩:=OO hi hc hm n (o+1) (by omega) Oe.2;rw[e1] at Oe;have Ex:cs[o].still=true:=by simpa[Eg] using Oe.1
  obtain⟨u,hu,h1,hr⟩:=GA hi hc hm (Ax hlt);refine⟨by simp[A8,p],?_⟩;simp only[A8,e1];exact⟨rfl,⟨⟨u,Ka hu h1,Au.mem hi _ _ Ex hr⟩,trivial⟩,q⟩
def NX(w:World)(b o:Nat)(Co:List (List Aa)):Prop:=
 ∃v,w.cell? ⟨b,o,none⟩=some v/\((v= .slice none 0 0/\Co=[])\/
  (∃gk ko cap,v= .slice (some ⟨gk,ko,none⟩) Co.length cap/\Co.length<=cap/\cap<=maxLen/\gk<w.heap.size/\B3 (CK w) Co 1 gk ko))
def Uk(hi:Dp U h w){id g:Nat}(hm:U.mu id=some g){x:Int}{h1:Ab}{r:Aa}(e:Sw h [.ptr (some (id,0)),.int .i64 x]=some (h1,r)):
  h1=h/\∃gn off n cap row c Co,r= .tuple [.A9 row,.int .i64 c,.sl 1 Co]/\g<w.heap.size/\gn<w.heap.size/\w.cell? ⟨g,0,none⟩=some (.slice (some ⟨gn,off,none⟩) n cap)/\n<=cap/\cap<=maxLen/\
   1<=x/\x<=n/\Bb (CK w) row gn (off+(x.toNat-1)*13)/\w.cell? ⟨gn,off+(x.toNat-1)*13+11,none⟩=some (.int .i64 c)/\NX w gn (off+(x.toNat-1)*13+2) Co:=by
 unfold Sw at e;split at e
 .rename_i Cw x' EI;cases EI;split at e
  .rename_i nid off n l hc;split at e
   .rename_i cs hcs;split at e
    .rename_i hx;split at e
     .rename_i c0 c1 c2 c3 c4 c5 c6 c7 c8 c9 ZT c ZU hrow;split at e
      .rename_i Ex;simp only[Eg,Ao,FT] at Ex;obtain⟨s0,s1,s3,s4,s5,s6,s7,s8,s9,cr,ct⟩:=Ex;obtain⟨_,y,hy,gn,cap,ZR,rfl,q1,⟨q2,q3⟩,q4⟩:=hi.JB hc hm (j:=0) rfl;have ZY:gn<w.heap.size:=by obtain⟨⟨us,e,fr,p1,p2⟩,_⟩:=hi.sz gn _ q4;exact(Ae.1 p1).1
       have get:∀(j:Nat) (a:Aa),j<13->[c0,c1,c2,c3,c4,c5,c6,c7,c8,c9,ZT,.int .i64 c,ZU][j]?=some a->cs[off+(x.toNat-1)*13+j]?=some a:=λj a hj ha=>by rw[<-hrow,A6 hj,Bg] at ha;exact ha
       have key:∀(j:Nat) (a:Aa),j<13->[c0,c1,c2,c3,c4,c5,c6,c7,c8,c9,ZT,.int .i64 c,ZU][j]?=some a->a.still=true->∃u,(CK w).DI gn (off+(x.toNat-1)*13+j)=some u/\Au (CK w) a u:=λj a hj ha hs=>by obtain⟨u,hu,ho,hr⟩:=GA hi hcs ZR (get j a hj ha);exact⟨u,Ka hu ho,Au.mem hi _ _ hs hr⟩
       have xD:w.cell? ⟨gn,off+(x.toNat-1)*13+11,none⟩=some (.int .i64 c):=by obtain⟨u,hu,_,hr⟩:=GA hi hcs ZR (get 11 _ (by omega) rfl);cases hr;exact hu
       obtain⟨u2,fZ,gR,GK⟩:=GA hi hcs ZR (get 2 c2 (by omega) rfl);have mk:∀(k2:Aa),(∃u,(CK w).DI gn (off+(x.toNat-1)*13+2)=some u/\Au (CK w) k2 u)->Bb (CK w) [c0,c1,k2,c3,c4,c5,c6,c7,c8,c9,ZT,.int .i64 c,ZU] gn (off+(x.toNat-1)*13):=λk2 h2=>⟨key 0 c0 (by omega) rfl s0,key 1 c1 (by omega) rfl s1,h2,key 3 c3 (by omega) rfl s3,key 4 c4 (by omega) rfl s4,key 5 c5 (by omega) rfl s5,key 6 c6 (by omega) rfl s6,key 7 c7 (by omega) rfl s7,key 8 c8 (by omega) rfl s8,key 9 c9 (by omega) rfl s9,key 10 ZT (by omega) rfl cr,key 11 _ (by omega) rfl rfl,key 12 ZU (by omega) rfl ct,trivial⟩
       have hg:=BB hy;split at e;.cases e;cases GK;exact⟨rfl,gn,off,n,cap,_,c,[],rfl,hg,ZY,hy,q1,q3,hx.1,hx.2.1,mk _ ⟨_,Ka fZ gR,rfl⟩,xD,_,fZ,.inl ⟨rfl,rfl⟩⟩
       .rename_i bO ko m;split at e
        .rename_i ks bE;split at e
         .rename_i hk;cases e;obtain⟨gk,capk,cu,rfl,r1,⟨r2,r3⟩,r4⟩:=GK;obtain⟨t1,t2⟩:=OO hi bE cu m ko (by omega) hk.2;have tW:gk<w.heap.size:=by obtain⟨⟨us,e,fr,p1,p2⟩,_⟩:=hi.sz gk _ r4;exact(Ae.1 p1).1
          refine⟨rfl,gn,off,n,cap,_,c,A8 ks 1 ko m,rfl,hg,ZY,hy,q1,q3,hx.1,hx.2.1,mk _ ⟨_,Ka fZ gR,⟨gk,ko,none⟩,capk,by rw[t1],by rw[t1];exact r1,.inl rfl,t2⟩,xD,_,fZ,.inr ⟨gk,ko,capk,by rw[t1],by rw[t1];exact r1,r3,tW,t2⟩⟩
         .cases e
        .cases e
       .cases e
      .cases e
     .cases e
    .cases e
   .cases e
  .cases e
 .cases e
def V9{n:Nat}(hs:Ca cx (IT.run (AH cx) n))(hi:Dp U h w)(hg:∀g cs,cx.C8 g=some cs->Bb U cs g 0){row:List Aa}{s:Ag}{h1:Ab}(e:IT.run (AH cx) n (AH cx 248 [.A9 row]) []=some (.ret,[.str s],h1))
  {W:World} (hb:Below w.heap.size w W) {gn o:Nat} (hr:Bb (CK w) row gn o):
  Calls Proofs.Tryz.prog 248 #[.pointer (some ⟨gn,o,none⟩)] W λe W'=>e= .returned (.string ⟨⟨s⟩⟩)/\Below W.heap.size W W':=by
 refine((hs.2 248 _ _ _ _ e).2 (CK W) W #[.pointer (some ⟨gn,o,none⟩)] (Uc W) (λg cs ZG=>Bb.mono (OL hb) cs g 0 (Bb.mem hi cs g 0 (KO cs (hs.1.1 g cs ZG)) (hg g cs ZG)))
  ⟨_,_,rfl,⟨gn,o,rfl,Bb.mono (OL hb) row gn o hr⟩,rfl⟩).mono λe W' he=>?_
 cases e with
 |returned v=>obtain⟨U',_,ha,hv,_⟩:=he;cases hv;exact⟨rfl,ha.os,ha.tape,ha.output,ha.size,λk hk=>(ha.GS k hk (λid=>by simp[CK])).1⟩
 |_=>exact he.elim
end
def Wa{w:World}{b o:Nat}{Co:List (List Aa)}(h:NX w b o Co):∃p cap,w.cell? ⟨b,o,none⟩=some (.slice p Co.length cap)/\Co.length<=cap/\cap<=maxLen/\
  ∀(i:Nat) (y:Int),Co[i]?=some [.int .i64 y]->∃gk ko,p=some ⟨gk,ko,none⟩/\gk<w.heap.size/\w.cell? ⟨gk,ko+i,none⟩=some (.int .i64 y):=by
 obtain⟨v,hv,⟨rfl,rfl⟩|⟨gk,ko,cap,rfl,h1,h2,h3,h4⟩⟩:=h;.exact⟨none,0,hv,Ap _,by decide,λi y hi=>by simp at hi⟩
 .refine⟨_,cap,hv,h1,h2,λi y hi=>⟨gk,ko,rfl,h3,?_⟩⟩;obtain⟨_,⟨u,hu,hr⟩,_⟩:=B3.get h4 hi;cases hr;have:=hu;simp only[CK,Ij] at this;simpa using this.1
def OP(l:List UInt8):Lib.strCells ⟨l.toArray⟩=Lib.byteCells l:=by simp[Lib.strCells,Lib.byteCells]
def NY(l:List UInt8):Lib.strCells ⟨⟨l⟩⟩=Lib.byteCells l:=by simp[Lib.strCells,Lib.byteCells]
def P9(i n:Nat)(h:i<n)(hn:n<=9223372036854775807):wrap64 ((i:Int)+1)=((i+1:Nat):Int):=by rw[Go.IntWalk.wrap64_in _ ⟨by omega,by omega⟩];omega
def M5(d:Nat)(h:d<=1000):wrap64 ((d:Int)+1)=((d+1:Nat):Int):=by rw[Go.IntWalk.wrap64_in _ ⟨by omega,by omega⟩];omega
abbrev S4(g:Nat)(w0:World)(x:Int)(d:Nat)(BE IN:Ag):Prop:=
 ∀(B b:Nat) (W:World),w0.heap.size<=B->B<=W.heap.size->Below w0.heap.size w0 W->Lib.IsBuilder 197 5 B b (Lib.byteCells BE) W->
  Calls Proofs.Tryz.prog 180 #[.pointer (some ⟨g,0,none⟩),.pointer (some ⟨b,0,none⟩),.int .i64 x,.int .i64 d] W λe W'=>(∃v,e= .returned v)/\Lib.IsBuilder 197 5 B b (Lib.byteCells IN) W'/\Below B W W'
def SA{p:Prop}(h:p):Hid p:=h
def FH{w0 W':World}{k j:Nat}{v:Value}(hb:Below w0.heap.size w0 W')(h:w0.cell? ⟨k,j,none⟩=some v):W'.cell? ⟨k,j,none⟩=some v:=by rw[AV (hb.block k (BB h))];exact h
def Qa:Code->Code
 | .seq _ c=>Qa c
 | .block _ c=>c
 |c=>c
noncomputable def Ul:Code:=match Proofs.Tryz.f180.body with
 |some c=>Qa c
 |none=> .skip
set_option maxRecDepth 100000 in
set_option maxHeartbeats 2000000 in
def Um{w0 W W6:World}{g B b d capk:Nat}{p:Option Addr}{Co:List (List Aa)}(hB:w0.heap.size<=B)(hBW:B<=W.heap.size)(hb:Below w0.heap.size w0 W)(hd:d<=1000)
  (NJ:Co.length<=capk) (Pm:capk<=maxLen) (V7:∀(i:Nat) (y:Int),Co[i]?=some [.int .i64 y]->∃gk ko,p=some ⟨gk,ko,none⟩/\gk<w0.heap.size/\w0.cell? ⟨gk,ko+i,none⟩=some (.int .i64 y))
  (f:Nat->Ag) (hf:∀i,i<Co.length->∃y,Co[i]?=some [.int .i64 y]/\S4 g w0 y (d+1) (f i) (f (i+1))) (gA:Below B W W6) (l6:Lib.IsBuilder 197 5 B b (Lib.byteCells (f 0)) W6)
  (z2 z4 z5 z6 z7 z8 z9 cw cy cz c_ da db dc dd de df z20 dg z22 dh di dj dk dm dr dt du dv dw dx dy dz d_ z37 eb ec ee eh ej ek el eo ep er z51 et z53 eu ew ey ez e_:Value):
  Ul.wpIn Fence.wide 5 Proofs.Tryz.prog (Exit.inBlock 0<|bodyPost Proofs.Tryz.prog Proofs.Tryz.f180 λe W'=>(∃v,e= .returned v)/\Lib.IsBuilder 197 5 B b (Lib.byteCells (f Co.length)) W'/\Below B W W')
   {tmps:=#[.pointer (some ⟨g,0,none⟩),.pointer (some ⟨b,0,none⟩),z2,.int .i64 d,z4,z5,z6,z7,z8,z9,cw,cy,cz,c_,da,db,dc,dd,de,df,z20,dg,z22,dh,di,dj,dk,dm,dr,dt,du,dv,dw,dx,dy,dz,d_,z37,eb,ec,ee,eh,ej,ek,el,eo,.slice p Co.length capk,.int .i64 Co.length,.int .i64 0,ep,er,z51,et,z53,eu,ew,ey,ez,e_],defers:=[]} W6:=by
 simp only[Ul,Qa,Proofs.Tryz.f180];gi_loopg [48] Co.length (λk v wr=>∃i,i<=Co.length/\k=Co.length-i/\v= .int .i64 (i:Nat)/\Below B W wr/\Lib.IsBuilder 197 5 B b (Lib.byteCells (f i)) wr)
 case atStart=>exact⟨0,D0 _,rfl,rfl,gA,l6⟩
 case round=>
  obtain⟨i,hi,rfl,rfl,bbi,li⟩:=hrel;by_cases hlt:i<Co.length
  .obtain⟨y,hy,ZZ⟩:=hf i hlt;obtain⟨gk,ko,rfl,tW,EM⟩:=V7 i y hy;have tX:Below w0.heap.size w0 wr:=hb.trans (bbi.mono hB);have ci:=FH tX EM;have fb:(i:Int)<(Co.length:Int):=by exact_mod_cast hlt
   have fc:=P9 i _ hlt (AX NJ Pm);have fg:=M5 d hd;have Lc:=ZZ B b _ hB (AX hBW bbi.size) tX li;clear ZZ hf V7 NJ Pm tX li l6 gA EM hy tW hB hBW hb;rw[show((d+1:Nat):Int)=(d:Int)+1 from rfl] at Lc;gi_wp2
   refine⟨trivial,(callsIn_wide.2 Lc).mono ?_⟩;rintro e W7 ⟨⟨v,rfl⟩,l7,b7⟩;gi_wp2
   gi_roundg (Co.length-(i+1))
   case measure=>exact Nat.sub_lt_sub_left hlt (QA i)
   case rel=>refine⟨i+1,hlt,rfl,?_,bbi.trans b7,l7⟩;first|rfl|exact Bm (Value.int .i64) fc
  .obtain rfl:i=Co.length:=Nat.le_antisymm hi (Nat.le_of_not_lt hlt);gi_wp2
   go_end0
   exact⟨⟨_,rfl⟩,li,bbi⟩
set_option maxRecDepth 100000 in
set_option maxHeartbeats 2000000 in
def cB{w0:World}{g gn off n cap:Nat}{c x:Int}{Co:List (List Aa)}(bK:g<w0.heap.size)(ZY:gn<w0.heap.size)(hc:w0.cell? ⟨g,0,none⟩=some (.slice (some ⟨gn,off,none⟩) n cap))(HC:n<=cap)(hm:cap<=maxLen)
  (Rf:1<=x) (Uj:x<=n) (i5:w0.cell? ⟨gn,off+(x.toNat-1)*13+11,none⟩=some (.int .i64 c)) (hk:NX w0 gn (off+(x.toNat-1)*13+2) Co)
  {d:Nat} (hd:d<=1000) {BE acc2 s:Ag}
  (Rg:∀W,Below w0.heap.size w0 W->Calls Proofs.Tryz.prog 248 #[.pointer (some ⟨gn,off+(x.toNat-1)*13,none⟩)] W λe W'=>e= .returned (.string ⟨⟨s⟩⟩)/\Below W.heap.size W W')
  (hlen:(BE++List.replicate (2*d) 32++s++[10]).length<=AO)
  (Rh:(c=0/\acc2=BE++List.replicate (2*d) 32++s++[10])\/(c≠0/\S4 g w0 c (d+1) (BE++List.replicate (2*d) 32++s++[10]) acc2))
  (f:Nat->Ag) (qT:f 0=acc2) (hf:∀i,i<Co.length->∃y,Co[i]?=some [.int .i64 y]/\S4 g w0 y (d+1) (f i) (f (i+1))):
  S4 g w0 x d BE (f Co.length):=by
 intro B b W hB hBW hb xE;obtain⟨p,capk,Vw,NJ,Pm,V7⟩:=Wa hk;have ZH:AO=140737488355328:=rfl;simp only[An,Dk,AF,A4] at hlen;have m1:2*d<=140737488355328:=by rw[ZH] at hlen;omega
 have m2:(Lib.byteCells BE).length+(⟨(List.replicate (2*d) (32:UInt8)).toArray⟩:ByteArray).size<=140737488355328:=by rw[ZH] at hlen;rw[byteCells_length];simp only[ByteArray.size,AE,Dk];omega
 have m3:(Lib.byteCells (BE++List.replicate (2*d) 32)).length+(⟨⟨s⟩⟩:ByteArray).size<=140737488355328:=by rw[ZH] at hlen;rw[byteCells_length];simp only[ByteArray.size,An,Dk];show _+s.length<=_;omega
 have m4:(Lib.byteCells (BE++List.replicate (2*d) 32++s)).length+1<=140737488355328:=by rw[ZH] at hlen;rw[byteCells_length];simp only[An,Dk];omega
 have m5:d<=9223372036854775807:=AX hd (by decide);clear hlen ZH;have Hline:=SA Rg;have Hcont:=SA Rh;have Hf:=SA hf;have Hk4:=SA V7;have Hk2:=SA NJ;have Hk3:=SA Pm;clear Rg Rh hf V7 hk NJ Pm;refine(callsIn_wide (n:=5)).1 ?_;refine callsIn_of_wp Proofs.Tryz.func180 rfl trivial ?_ rfl;simp only[Proofs.Tryz.ntmps180,AE,AF,A4,Nat.reduceAdd,Nat.reduceSub,EE,EF,FU,EW,Bi,Cz];gi_wp2
 refine⟨trivial,(callsIn_wide.2 (iZ g gn off n cap x _ (FH hb hc) Rf Uj HC hm)).mono ?_⟩;rintro e w' ⟨rfl,rfl⟩;gi_wp2
 refine⟨trivial,(callsIn_wide.2 (Proofs.Tryz.strings_Repeat ⟨#[32,32]⟩ d _ m5 m1)).mono ?_⟩;rintro e W1 ⟨rfl,b1⟩;have Q7:Below w0.heap.size w0 W1:=hb.trans (b1.mono hb.size);have xF:Below B W W1:=b1.mono hBW;have l1:=Hj xE b1;have hr:(Lib.repeatL (⟨#[32,32]⟩:ByteArray).data.toList d)=List.replicate (2*d) 32:=P7 d;rw[hr];gi_wp2
 refine⟨trivial,(callsIn_wide.2 (Proofs.Tryz.Builder_WriteString B b (Lib.byteCells BE) _ _ l1 m2 (AX hBW xF.size))).mono ?_⟩;rintro e W2 ⟨rfl,l2,b2⟩;rw[OP,<-ET] at l2;have xG:=xF.trans b2;have q6:Below w0.heap.size w0 W2:=Q7.trans (b2.mono hB);gi_wp2
 refine⟨trivial,(callsIn_wide.2 (Hline.out _ q6)).mono ?_⟩;rintro e W3 ⟨rfl,b3⟩;have fh:Below w0.heap.size w0 W3:=q6.trans (b3.mono q6.size);have xH:Below B W W3:=xG.trans (b3.mono (AX hBW xG.size));have l3:=Hj (.inr l2) b3;gi_wp2
 refine⟨trivial,(callsIn_wide.2 (Proofs.Tryz.Builder_WriteString B b _ _ _ l3 m3 (AX hBW xH.size))).mono ?_⟩;rintro e W4 ⟨rfl,l4,b4⟩;rw[NY,<-ET] at l4;have xI:=xH.trans b4;have iW:Below w0.heap.size w0 W4:=fh.trans (b4.mono hB);gi_wp2
 refine⟨trivial,(callsIn_wide.2 (Proofs.Tryz.Builder_WriteByte B b _ 10 _ (.inr l4) m4 (AX hBW xI.size))).mono ?_⟩;rintro e W5 ⟨rfl,l5,b5⟩;have fi:Lib.byteCells (BE++List.replicate (2*d) 32++s)++[Value.int .u8 10]=Lib.byteCells (BE++List.replicate (2*d) 32++s++[10]):=by rw[ET (BE++List.replicate (2*d) 32++s) [10]];rfl
 replace l5:=fi▸l5;have tY:=xI.trans b5;have q7:Below w0.heap.size w0 W5:=iW.trans (b5.mono hB);have c5:=FH q7 i5;clear HC hm Rf Uj hc m1 m2 m3 m4 m5 l1 l3 l4 l2;rcases Hcont.out with⟨rfl,rfl⟩|⟨i6,Un⟩
 .have gA:=tY;have l6:Lib.IsBuilder 197 5 B b (Lib.byteCells (f 0)) W5:=by rw[qT];exact .inr l5
  have ck:=FH q7 Vw;gi_wp2
  exact Um hB hBW hb hd Hk2.out Hk3.out Hk4.out f Hf.out gA l6 _ _ _ _ _ _ _ _ _ _ _ _ _ _ _ _ _ _ _ _ _ _ _ _ _ _ _ _ _ _ _ _ _ _ _ _ _ _ _ _ _ _ _ _ _ _ _ _ _ _ _ _ _
 .have hne:(c != 0)=true:=by simp[i6]
  have fg:=M5 d hd;have i7:=Un B b _ hB (AX hBW tY.size) q7 (.inr l5);rw[show((d+1:Nat):Int)=(d:Int)+1 from rfl] at i7;gi_wp2
  refine⟨trivial,(callsIn_wide.2 i7).mono ?_⟩;rintro e W6 ⟨⟨v,rfl⟩,fj,b6⟩;have gA:=tY.trans b6;have fk:Below w0.heap.size w0 W6:=q7.trans (b6.mono hB);have l6:Lib.IsBuilder 197 5 B b (Lib.byteCells (f 0)) W6:=by rw[qT];exact fj
  have ck:=FH fk Vw;gi_wp2
  exact Um hB hBW hb hd Hk2.out Hk3.out Hk4.out f Hf.out gA l6 _ _ _ _ _ _ _ _ _ _ _ _ _ _ _ _ _ _ _ _ _ _ _ _ _ _ _ _ _ _ _ _ _ _ _ _ _ _ _ _ _ _ _ _ _ _ _ _ _ _ _ _ _
section
variable{U:Gh}{h:Ab}{w0:World}
abbrev cC(fuel d:Nat)(a:Aa):List Aa->(Ag->IT)->Ag->IT:=λbO K BE=>match bO with
 |[.int .i64 y]=>Dv 248 a fuel y (d+1) BE K
 |_=> .fail
def OQ{run:IT->Ab->Option Ep}{g fuel d:Nat}{a:Aa}(ih:∀(x:Int) (BE:Ag) (k:Ag->IT) (res:Ep),IT.step (AH cx) run (Dv 248 a fuel x (d+1) BE k) h=some res->∃IN,IT.step (AH cx) run (k IN) h=some res/\S4 g w0 x (d+1) BE IN):
  ∀(Co:List (List Aa)) (BE:Ag) (k:Ag->IT) (res:Ep),IT.step (AH cx) run (Co.foldr (cC fuel d a) k BE) h=some res->
   ∃f:Nat->Ag,f 0=BE/\IT.step (AH cx) run (k (f Co.length)) h=some res/\∀i,i<Co.length->∃y,Co[i]?=some [.int .i64 y]/\S4 g w0 y (d+1) (f i) (f (i+1))
 |[],BE,k,res,e=>⟨λ_=>BE,rfl,e,λi hi=>by simp at hi⟩
 |bO::Co,BE,k,res,e=>by
  simp only[List.foldr_cons] at e;unfold cC at e;split at e
  .rename_i y;obtain⟨acc1,e1,c1⟩:=ih _ _ _ _ e;obtain⟨f,f0,f1,f2⟩:=OQ ih Co acc1 k res e1;refine⟨λ|0=>BE|i+1=>f i,rfl,f1,λi hi=>?_⟩;cases i with
   |zero=>
    have hc:S4 g w0 y (d+1) BE (f 0):=by rw[f0];exact c1
    exact⟨y,rfl,hc⟩
   |succ i=>obtain⟨y',p,q⟩:=f2 i (by simpa using hi);exact⟨y',by simpa using p,q⟩
  .cases e
def Uo{run:IT->Ab->Option Ep}{a:Aa}{x:Int}{d:Nat}{BE:Ag}{k:Ag->IT}{res:Ep}(fuel:Nat)(e:IT.step (AH cx) run (Dv 248 a fuel x d BE k) h=some res):∃id,a= .ptr (some (id,0)):=by
 cases fuel with
 |zero=>simp[Dv,IT.step] at e
 |succ fuel=>
  simp only[Dv,IT.step,Je] at e;cases e0:Sw h [a,.int .i64 x] with
  |none=>simp[e0] at e
  |some R0=>
   unfold Sw at e0;split at e0;.rename_i id x' EI;cases EI;exact⟨id,rfl⟩
   .cases e0
def OR{n:Nat}(hs:Ca cx (IT.run (AH cx) n))(hi:Dp U h w0)(hg:∀g cs,cx.C8 g=some cs->Bb U cs g 0){id g:Nat}(hm:U.mu id=some g):
  ∀(fuel:Nat) (x:Int) (d:Nat) (BE:Ag) (k:Ag->IT) (res:Ep),d+fuel<=1000->IT.step (AH cx) (IT.run (AH cx) n) (Dv 248 (.ptr (some (id,0))) fuel x d BE k) h=some res->
   ∃IN,IT.step (AH cx) (IT.run (AH cx) n) (k IN) h=some res/\S4 g w0 x d BE IN/\∃p cap ln,w0.cell? ⟨g,0,none⟩=some (.slice p ln cap)/\1<=x/\x<=ln
 |0,x,d,BE,k,res,_,e=>by simp[Dv,IT.step] at e
 |fuel+1,x,d,BE,k,res,hd,e=>by
  simp only[Dv,IT.step,Je] at e;cases e0:Sw h [.ptr (some (id,0)),.int .i64 x] with
  |none=>simp[e0] at e
  |some R0=>
  obtain⟨h1,r⟩:=R0;simp only[e0] at e;obtain⟨hh,gn,off,nn,cap,row,c,Co,rfl,bK,ZY,hc,HC,xJ,Rf,Uj,hrow,i5,hk⟩:=Uk hi hm e0;simp only[IT.step] at e;rw[hh] at e;clear hh;cases e1:IT.run (AH cx) n (AH cx 248 [.A9 row]) [] with
  |none=>simp[e1] at e
  |some R1=>
  simp only[e1] at e;split at e
  .rename_i r1 ZA EI;cases EI;split at e
   .split at e
    .rename_i s FX;split at e
     .rename_i hlen;have ih:∀(x:Int) (BE:Ag) (k:Ag->IT) (res:Ep),IT.step (AH cx) (IT.run (AH cx) n) (Dv 248 (.ptr (some (id,0))) fuel x (d+1) BE k) h=some res->∃IN,IT.step (AH cx) (IT.run (AH cx) n) (k IN) h=some res/\S4 g w0 x (d+1) BE IN:=λx BE k res e=>by obtain⟨IN,p,q,_⟩:=OR hs hi hg hm fuel x (d+1) BE k res (by omega) e;exact⟨IN,p,q⟩
      have Rg:∀W,Below w0.heap.size w0 W->Calls Proofs.Tryz.prog 248 #[.pointer (some ⟨gn,off+(x.toNat-1)*13,none⟩)] W λe W'=>e= .returned (.string ⟨⟨s⟩⟩)/\Below W.heap.size W W':=
       λW hb=>V9 hs hi hg e1 hb hrow
      have Hh:∀acc2,((c=0/\acc2=BE++List.replicate (2*d) 32++s++[10])\/(c≠0/\S4 g w0 c (d+1) (BE++List.replicate (2*d) 32++s++[10]) acc2))->
        IT.step (AH cx) (IT.run (AH cx) n) (Co.foldr (cC fuel d (.ptr (some (id,0)))) k acc2) h=some res->∃IN,IT.step (AH cx) (IT.run (AH cx) n) (k IN) h=some res/\S4 g w0 x d BE IN/\∃p cap ln,w0.cell? ⟨g,0,none⟩=some (.slice p ln cap)/\1<=x/\x<=ln:=by
       intro acc2 Rh e2;obtain⟨f,f0,f1,f2⟩:=OQ ih Co acc2 k res e2;exact⟨f Co.length,f1,cB bK ZY hc HC xJ Rf Uj i5 hk (by omega) Rg hlen Rh f f0 f2,_,_,_,hc,Rf,Uj⟩
      split at e;.rename_i i6;exact Hh _ (.inl ⟨i6,rfl⟩) e
      .rename_i i6;obtain⟨acc2,p,q⟩:=ih _ _ _ _ e;exact Hh acc2 (.inr ⟨i6,q⟩) p
     .cases e
    .cases e
   .cases e
  .cases e
end
set_option maxRecDepth 100000 in
set_option maxHeartbeats 2000000 in
def cD{w0:World}{g ln cap:Nat}{p:Option Addr}{x:Int}{s:Ag}(bK:g<w0.heap.size)(hc:w0.cell? ⟨g,0,none⟩=some (.slice p ln cap))(Rf:1<=x)(Uj:x<=ln)(Un:S4 g w0 x 0 [] s):
  Calls Proofs.Tryz.prog 94 #[.pointer (some ⟨g,0,none⟩),.int .i64 x] w0 λe w'=>e= .returned (.string ⟨⟨s⟩⟩)/\Below w0.heap.size w0 w':=by
 have d1:decide (1<=x/\x<=ln)=true:=Ml ⟨Rf,Uj⟩;have tZ:(w0.alloc (.cells #[.pointer none,.slice none 0 0] 197)).heap[w0.heap.size]?=some (.cells #[.pointer none,.slice none 0 0] 197 (0,0)):=World.alloc_heap_new w0 _;have Q7:Below w0.heap.size w0 (w0.alloc (.cells #[.pointer none,.slice none 0 0] 197)):=(Below.refl _ w0).alloc (Ap _) _;have l1:Lib.IsBuilder 197 5 w0.heap.size w0.heap.size (Lib.byteCells []) (w0.alloc (.cells #[.pointer none,.slice none 0 0] 197)):=
  .inl ⟨Ap _,.slice none 0 0,tZ,World.ownsRow_nil _ _ _ _,by simp[Value.ownBlock]⟩
 have Lc:=Un w0.heap.size w0.heap.size _ (Ap _) (by simp) Q7 l1;rw[show((0:Nat):Int)=0 from rfl] at Lc;refine(callsIn_wide (n:=5)).1 ?_;refine callsIn_of_wp Proofs.Tryz.func94 rfl trivial ?_ rfl;simp only[Proofs.Tryz.ntmps94,AE,AF,A4,Nat.reduceAdd,Nat.reduceSub,EE,EF,FU,EW,Bi,Cz];gi_wp2
 refine⟨trivial,(callsIn_wide.2 (M4 g _ ln cap x _ hc)).mono ?_⟩;rintro e w' ⟨rfl,rfl⟩;rw[d1];gi_wp2
 refine⟨trivial,(callsIn_wide.2 Lc).mono ?_⟩;rintro e W2 ⟨⟨v,rfl⟩,l2,b2⟩;gi_wp2
 refine⟨trivial,(callsIn_wide.2 (Proofs.Tryz.Builder_String_any w0.heap.size w0.heap.size s _ l2 (by have:=b2.size;have:=Q7.size;omega))).mono ?_⟩;rintro e W3 ⟨rfl,b3⟩;gi_wp2
 refine bodyPost_ret (results_tmp rfl _ _ _) rfl ?_;exact⟨rfl,(Q7.trans b2).trans b3⟩
def cE{h:Ab}(n:Nat)(hs:Ca cx (IT.run (AH cx) n))(args:List Aa)(r:Aa)(h':Ab)(Ad:IT.step (AH cx) (IT.run (AH cx) n) (Ra 248 args) h=some (.ret,[r],h')):
  (∃fn c,cx.P.funcs[B4 94]?=some fn/\(fn.name== "runtime.NumGoroutine")=false/\fn.body=some c)/\
  ∀(U:Gh) (w:World) (cargs:Array Value),Dp U h w->(∀g cs,cx.C8 g=some cs->Bb U cs g 0)->Ai U args cargs.toList->
   Calls cx.P (B4 94) cargs w λe w'=>match e with
    | .returned v=>∃U',Dp U' h' w'/\FC U w U' w'/\Au U' r v/\(cx.Et 94=true->∃s c,D2 U' w.heap.size w' s c v r)
    |_=>False:=by
 refine⟨⟨_,_,Proofs.Tryz.func94,rfl,rfl⟩,λU w cargs hi hg ha=>?_⟩;have uA:∃id x,args=[.ptr (some (id,0)),.int .i64 x]:=by
  unfold Ra at Ad;split at Ad;.rename_i a x;obtain⟨id,rfl⟩:=Uo _ Ad;exact⟨id,x,rfl⟩
  .cases Ad
 obtain⟨id,x,rfl⟩:=uA;obtain⟨v0,us,ZL,⟨g,hm,rfl⟩,v1,fM,rfl,rfl,hnil⟩:=ha;cases hnil;have hcargs:cargs=#[.pointer (some ⟨g,0,none⟩),.int .i64 x]:=by apply Dh;simpa using ZL
 subst hcargs;simp only[Ra] at Ad;obtain⟨BE,e1,Un,p,cap,ln,hc,Rf,Uj⟩:=OR hs hi hg hm 100 x 0 [] _ _ (by omega) Ad;cases e1;refine(cD (BB hc) hc Rf Uj Un).mono λe w' he=>?_;obtain⟨rfl,hb⟩:=he;obtain⟨Pl,N8⟩:=hi.FG hb;exact⟨U,Pl,N8,rfl,λe=>by cases e⟩
end Go.Am
end
section
namespace Go.Am
open Go
def Wb:NL cx:=by
 refine⟨λf hf=>?_,λf p hp n hs args h r h' Ad=>?_⟩
 .simp only[cx,iP] at hf;split at hf;.exact Sz
  .cases hf
 .simp only[cx,ZV] at hp;split at hp;.cases hp;exact cE n hs args r h' Ad
  .cases hp;exact V8 n args r h' Ad
  .cases hp;exact V5 n hs args r h' Ad
  .cases hp
end Go.Am
end
