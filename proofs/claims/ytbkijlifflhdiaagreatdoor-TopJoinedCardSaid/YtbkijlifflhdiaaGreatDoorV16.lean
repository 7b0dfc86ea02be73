/- Lemmas -/
import Derived.Test.YtbkijlifflhdiaaGreatDoorV15
import Derived.RangeFuncBox
import Derived.OwnWalkIn
import Derived.TacticsInMore
import Derived.LoopNIn
import Derived.Sort.LoopGhostIn
set_option linter.all false
set_option maxHeartbeats 0
set_option maxRecDepth 100000
section
namespace Go.Am
open Go Go.RowKit Go.Shelf
def Te(ga:Nat)(p:Option Addr)(n cap:Nat)(x:Int)(w:World)(hc:w.cell? ⟨ga,0,none⟩=some (.slice p n cap)):
  Calls Proofs.Tryz.prog 56 #[.pointer (some ⟨ga,0,none⟩),.int .i64 x] w λe w'=>e= .returned (.bool (decide (1<=x/\x<=n)))/\w=w':=by
 go_enter Proofs.Tryz.func56,Proofs.Tryz.ntmps56
 go_wp2
 all_goals refine bodyPost_ret (results_tmp rfl _ _ _) rfl ?_
 all_goals simp_all
 all_goals omega
def mm(ga gn off n cap:Nat)(x:Int)(w:World)(hc:w.cell? ⟨ga,0,none⟩=some (.slice (some ⟨gn,off,none⟩) n cap))(h1:1<=x)(h2:x<=n)(MU:n<=cap)(hm:cap<=maxLen):
  Calls Proofs.Tryz.prog 55 #[.pointer (some ⟨ga,0,none⟩),.int .i64 x] w λe w'=>e= .returned (.pointer (some ⟨gn,off+(x.toNat-1)*13,none⟩))/\w=w':=by
 have hb:maxLen<=9223372036854775807:=Be;have hw:wrap64 (x-1)=x-1:=Go.IntWalk.wrap64_in _ ⟨Ab,Ab⟩;go_enter Proofs.Tryz.func55,Proofs.Tryz.ntmps55
 go_wp2
 all_goals refine bodyPost_ret (results_tmp rfl _ _ _) rfl ?_
 all_goals exact⟨rfl,rfl⟩
def zc(ga:Nat)(x:Int)(w:World):
  Calls Proofs.Tryz.prog 184 #[.pointer (some ⟨ga,0,none⟩),.int .i64 x,.bool true] w λe w'=>e= .returned (.func (.func 208) #[] #[.pointer (some ⟨w.heap.size+1,0,none⟩),.pointer (some ⟨w.heap.size,0,none⟩),.pointer (some ⟨w.heap.size+1+1,0,none⟩)])/\
   w'=((w.alloc (.cells #[.pointer (some ⟨ga,0,none⟩)] 37)).alloc (.cells #[.int .i64 x] 3)).alloc (.cells #[.bool true] 4):=by
 have a:∀(fn:Fn) (first cap:Array Value) (w:World),(Instr.makeFunc fn first cap).run Proofs.Tryz.prog w= .ok (.func fn first cap) w:=λ_ _ _ _=>rfl;go_enter Proofs.Tryz.func184,Proofs.Tryz.ntmps184
 go_wp2
 go_ret
 exact⟨rfl,rfl⟩
def bS{cs:List Aa}{off n:Nat}{up:Int}{k:Nat}{b:Bool}(h:JL cs off n up k 0=some b):b=false:=by cases k<;>simp[JL] at h<;>exact h
def bT{cs:List Aa}{off n:Nat}{up x:Int}{k:Nat}{b:Bool}(h:JL cs off n up k x=some b)(hx:x≠0):∃k',k=k'+1/\
  ((x=up/\b=true)\/(x≠up/\1<=x/\x<=n/\∃p q,Fq cs off x 1=some p/\Fq cs off x 12=some q/\JL cs off n up k' (if p=0 then q else p)=some b)):=by
 cases k with
 |zero=>
  rw[JL] at h;. cases h
  .exact λe=>hx e
 |succ k=>
  refine⟨k,rfl,?_⟩;rw[JL] at h
  .split at h;.rename_i e;cases h;exact .inl ⟨e,rfl⟩
   .rename_i e;split at h
    .rename_i hr;split at h;.rename_i p q e1 a;exact .inr ⟨e,hr.1,hr.2,p,q,e1,a,h⟩
     .cases h
    .cases h
  .exact λe=>hx e
structure YK(Ba Bo ga gn off n cap:Nat)(cs:List Aa)(W:World):Prop where
 a:W.cell? ⟨Ba,0,none⟩=some (.pointer (some ⟨ga,0,none⟩))
 o:W.cell? ⟨Bo,0,none⟩=some (.bool true)
 c:W.cell? ⟨ga,0,none⟩=some (.slice (some ⟨gn,off,none⟩) n cap)
 x:∀(h:Int) (k:Nat) (v:Int),1<=h->h<=n->(k=1\/k=12)->Fq cs off h k=some v->W.cell? ⟨gn,off+(h.toNat-1)*13+k,none⟩=some (.int .i64 v)
def YK.KF{Ba Bo ga gn off n cap:Nat}{cs:List Aa}{A B:World}(h:YK Ba Bo ga gn off n cap cs A)(hk:∀b,b=Ba\/b=Bo\/b=ga\/b=gn->B.heap[b]?=A.heap[b]?):YK Ba Bo ga gn off n cap cs B:=
 ⟨by rw[BI (hk _ Au)];exact h.a,by rw[BI (hk _ Au)];exact h.o,by rw[BI (hk _ Au)];exact h.c,
  λx k v h1 h2 e d=>by rw[BI (hk _ Au)];exact h.x x k v h1 h2 e d⟩
def gQ{Ba Bo ga gn off n cap a:Nat}{cs:List Aa}{A:World}{u:Value}{J:World->Prop}(c:∀A B row,J A->A.grownBy B row->(∀r,row=some r->r=a)->J B)
  (hd:∀b,b=Ba\/b=Bo\/b=ga\/b=gn->b≠a) (hs:YK Ba Bo ga gn off n cap cs A) (hc:A.cell? ⟨a,0,none⟩=some u) (hf:A.frozen? ⟨a,0,none⟩=false) (hj:J A) (v:Value):
  YK Ba Bo ga gn off n cap cs (A.setCell ⟨a,0,none⟩ v)/\(A.setCell ⟨a,0,none⟩ v).cell? ⟨a,0,none⟩=some v/\(A.setCell ⟨a,0,none⟩ v).frozen? ⟨a,0,none⟩=false/\J (A.setCell ⟨a,0,none⟩ v):=
 ⟨hs.KF λb hb=>Below.heap_setCell _ _ _ b (hd b hb),World.cell?_setCell_same _ _ _ hc,by rw[World.frozen?_setCell];exact hf,c _ _ _ hj (grownBy_setCell' A a v) λr e=>by cases e;rfl⟩
def zd(m l d Ba Bo n₁ ga gn off n cap:Nat)(cs:List Aa)(up:Int)(J Jx:World->Prop)
  (w:∀A B row,J A->A.grownBy B row->(∀r,row=some r->r=d)->J B)
  (hY:∀x W,J W->YieldAt Fence.wide (m-1) Proofs.Tryz.prog l #[.int .i64 x] W λe W'=>(e= .returned (.bool true)/\J W'/\Below n₁ W W'/\x≠up)\/(e= .returned (.bool false)/\Jx W'/\x=up))
  (hd:∀b,b=Ba\/b=Bo\/b=ga\/b=gn->b<n₁/\b≠d) (g:d<n₁) (MU:n<=cap) (hm:cap<=maxLen)
  (W:World) (h:Int) (hs:YK Ba Bo ga gn off n cap cs W) (i:W.cell? ⟨d,0,none⟩=some (.int .i64 h)) (hf:W.frozen? ⟨d,0,none⟩=false)
  (fuel:Nat) (b:Bool) (hcl:JL cs off n up fuel h=some b) (h0:J W):
  CallsIn Fence.wide m Proofs.Tryz.prog 208 #[.func (.yield l) #[] #[],.pointer (some ⟨d,0,none⟩),.pointer (some ⟨Ba,0,none⟩),.pointer (some ⟨Bo,0,none⟩)] W λe W'=>(∃v,e= .returned v)/\((b=false/\J W')\/(b=true/\Jx W')):=by
 refine callsIn_of_wp Proofs.Tryz.func208 rfl trivial ?_ rfl;simp only[Proofs.Tryz.ntmps208,Bl,AH,Bd,Nat.reduceAdd,Nat.reduceSub,Dp,Dq,Er,DF,Bj,BW];gi_wp2
 gi_loopg [] fuel (λk wr=>∃x,JL cs off n up k x=some b/\YK Ba Bo ga gn off n cap cs wr/\wr.cell? ⟨d,0,none⟩=some (.int .i64 x)/\wr.frozen? ⟨d,0,none⟩=false/\J wr)
 case atStart=>exact⟨h,hcl,hs,i,hf,h0⟩
 case round=>
  obtain⟨x,hcl,hs,i,hf,hj⟩:=hrel;by_cases hx:x=0
  .subst hx;have:=bS hcl;subst this;gi_wp2
   refine⟨nofun,?_⟩;gi_wp2
   go_end0
   exact⟨⟨_,rfl⟩,hj⟩
  .obtain⟨k',rfl,Hn⟩:=bT hcl hx;have hne:(x != 0)=true:=by simp[hx]
   obtain⟨fn,tmps,assign,body,hy,hR⟩:=hY x wr hj;gi_wp2
   refine⟨nofun,?_⟩;refine hR.mono ?_;rintro e W3 (⟨rfl,s,WS,fx⟩|⟨rfl,f,fx⟩)
   .rcases Hn with⟨rfl,_⟩|⟨_,h1,h2,p,q,e1,F,mn⟩
    .exact absurd rfl fx
    have vj:=hs.KF λb hb=>WS.block b (hd b hb).1;have Ő:W3.cell? ⟨d,0,none⟩=some (.int .i64 x):=by rw[BI (WS.block d g)];exact i
    have j:W3.frozen? ⟨d,0,none⟩=false:=by rw[<-hf];simp only[World.frozen?,WS.block d g]
    have hp:=vj.x x 1 p h1 h2 (.inl rfl) e1;have hq:=vj.x x 12 q h1 h2 (.inr rfl) F;have H:=vj.a;have G:=vj.o;have D:¬Bo=d:=(hd Bo Au).2;have C:¬gn=d:=(hd gn Au).2;gi_wp2
    refine⟨trivial,nofun,(callsIn_wide.2 (mm ga gn off n cap x _ vj.c h1 h2 MU hm)).mono ?_⟩;rintro e w' ⟨rfl,rfl⟩;obtain⟨t,y,z4,u⟩:=gQ w (λb hb=>(hd b hb).2) vj Ő j s (.int .i64 p);by_cases ku:p=0
    .subst ku;obtain⟨z,I,z5,E⟩:=gQ w (λb hb=>(hd b hb).2) t y z4 u (.int .i64 q);gi_wp2
     gi_roundg k'
     case measure=>omega
     case rel=>exact⟨q,mn,z,I,z5,E⟩
    .have Ŋ:(p==0)=false:=by simp[ku]
     gi_wp2
     gi_roundg k'
     case measure=>omega
     case rel=>exact⟨p,by rw[Ac ku] at mn;exact mn,t,y,z4,u⟩
   .rcases Hn with⟨_,rfl⟩|⟨aAQ,_⟩
    .gi_wp2
     go_end0
     exact⟨⟨_,rfl⟩,f⟩
    .exact absurd fx aAQ
def mo(n₁:Nat)(up:Int)(I a:World->Prop)(x:Int)(W:World):Exit->Act->World->Prop
 | .normal,_,W'=>KeepsOthers W W'/\Below n₁ W W'/\I W'/\x≠up
 | .ret,_,W'=>KeepsOthers W W'/\a W'/\x=up
 | .exit _,_,_=>False
 | .goto _,_,_=>False
 | .panic _,_,_=>False
 | .outgrown,_,_=>False
def WT{P:Program}{n gf:Nat}{lb:Array Value}{g:Operand}{ps:Array Tmp}{assign body:Code}{Q:Exit->Act->World->Prop}{a:Act}{w:World}(f:Nat)(b:Bool)(up:Int)
  (hg:a.eval g= .func (.func gf) #[] lb) (o:∀args w,(callFunc gf args).run P w= .ok (.enter gf args) w) (m:f<w.heap.size)
  (bU:∀(l:Nat) (J Jx:World->Prop) (W:World),Below w.heap.size w W->(∀A B row,J A->A.grownBy B row->(∀r,row=some r->r=f)->J B)->
   (∀x W1,J W1->YieldAt Fence.wide (n-1 -1) P l #[.int .i64 x] W1 λe W'=>(e= .returned (.bool true)/\J W'/\Below w.heap.size W1 W'/\x≠up)\/(e= .returned (.bool false)/\Jx W'/\x=up))->J W->
   CallsIn Fence.wide (n-1) P gf (#[.func (.yield l) #[] #[]]++lb) W λe W'=>(∃v,e= .returned v)/\((b=false/\J W')\/(b=true/\Jx W')))
  (qX:ps.size=1) (I d:World->Prop) (hI:∀A B row,I A->A.grownBy B row->(∀r,row=some r->r=f\/w.heap.size<=r)->I B)
  (hIx:∀A B row,d A->A.grownBy B row->(∀r,row=some r->r=f\/w.heap.size<=r)->d B) (h0:I w) (a₁:Int->Act)
  (hassign:∀(l:Nat) (x:Int) (W:World) (K:Act->World->Prop),K (a₁ x) W->
   assign.wpIn (Fence.wide.inRound l) (n-1 -1) P (Exit.then K (λ_ _ _=>False)) {tmps:=(ps.zip #[.int .i64 x]).foldl (λt (p,v)=>t.setIfInBounds p v) a.tmps,defers:=[]} W)
  (M0:∀(l:Nat) (x:Int) (W:World),I W->body.wpIn (Fence.wide.inRound l) (n-1 -1) P (mo w.heap.size up I d x W) (a₁ x) W)
  (Tf:∀(D:Nat) (W:World),b=false->I W->W.heap[D]?=some (.deferred (some []))->w.heap.size<=D->Q .normal {a with defers:={target:= .collected D,args:=#[]}::a.defers} W)
  (rL:∀(D:Nat) (W:World),b=true->d W->W.heap[D]?=some (.deferred (some []))->w.heap.size<=D->Code.ret.wpIn Fence.wide n P Q {a with defers:={target:= .collected D,args:=#[]}::a.defers} W):
  (Code.rangeFunc g ps assign body).wpIn Fence.wide n P Q a w:=by
 refine wpIn_rangeFunc ?_;intro fn qI;have hro:Fence.wide.round=none:=rfl;rw[hro];obtain⟨rec,LI⟩:∃rec:LoopState->Option Code->Loop,rec=λst k=>{state:=st,pending:=k,fn,tmps:=a.tmps,params:=ps,assign,body,defers:=w.heap.size}:=⟨_,rfl⟩;obtain⟨W1,c⟩:∃W1,(w.alloc (.deferred (some []))).alloc (.loop (rec .ready none))=W1:=⟨_,rfl⟩;have h:W1.heap[w.heap.size+1]?=some (.loop (rec .ready none)):=by rw[<-c];have:=World.alloc_heap_new (w.alloc (.deferred (some []))) (.loop (rec .ready none));rwa [World.size_alloc] at this
 have i:W1.heap[w.heap.size]?=some (.deferred (some [])):=by rw[<-c];exact(Below.heap_alloc _ _ _ Au).trans (World.alloc_heap_new w _)
 have j:I W1:=by rw[<-c];exact hI _ _ none (hI _ _ none h0 (World.grownBy_alloc _ _ none) nofun) (World.grownBy_alloc _ _ none) nofun
 have MI:Below w.heap.size w W1:=by rw[<-c];exact(((Below.refl _ w).alloc (Af _) _).alloc Au _)
 refine⟨w.heap.size+1,[{target:= .collected w.heap.size,args:=#[]}],W1,{target:= .fn (.func gf) lb,args:=#[.func (.yield (w.heap.size+1)) #[] #[]]},W1,gf,
  #[.func (.yield (w.heap.size+1)) #[] #[]]++lb,W1,?_,?_,?_,?_,nofun,?_⟩
 .rw[<-c,LI];exact run_enterLoop_outer _ _ _ _ _
 .simp only[resolve,hg];simp[go_sem]
 .intro f' oR;trivial
 .simp[invoke,go_sem,o]
 .refine(bU (w.heap.size+1)
   (λW=>I W/\W.heap[w.heap.size+1]?=some (.loop (rec .ready none))/\W.heap[w.heap.size]?=some (.deferred (some [])))
   (λW=>d W/\W.heap[w.heap.size+1]?=some (.loop (rec .done (some .ret)))/\W.heap[w.heap.size]?=some (.deferred (some [])))
   W1 MI
   (λA B row hs hg' hr=>⟨hI A B row hs.1 hg' (λr e=> .inl (hr r e)),(hg'.block _ (As.1 hs.2.1).1 (λe=>by have:=hr _ e.symm;omega)).trans hs.2.1,
    (hg'.block _ (As.1 hs.2.2).1 (λe=>by have:=hr _ e.symm;omega)).trans hs.2.2⟩)
   ?_ ⟨j,h,i⟩).mono ?_
  .rintro x W ⟨hi,hl,hk⟩;have hlt:w.heap.size+1<W.heap.size:=(As.1 hl).1;have hy:=run_yield (P:=P) (args:=#[.int .i64 x]) hl (by rw[LI];exact qX.symm);rw[LI] at hy;refine⟨fn,_,assign,body,hy,roundIn_of_wpIn qI (hassign _ x W _ ⟨_,run_beginRound hl (by rw[LI]),?_⟩)⟩;have Z8:(W.putObj (w.heap.size+1) (.loop {rec .ready none with state:= .busy})).heap[w.heap.size+1]?=some (.loop {rec .ready none with state:= .busy}):=World.putObj_heap_same hlt;have RJ:(W.putObj (w.heap.size+1) (.loop {rec .ready none with state:= .busy})).heap[w.heap.size]?=some (.deferred (some [])):=(World.putObj_heap_other Ab).trans hk;have lT:Below w.heap.size W (W.putObj (w.heap.size+1) (.loop {rec .ready none with state:= .busy})):=belowK_b (Af _) W _ _ _ Ab hl rfl rfl;refine wpIn_mono (M0 _ x _ (hI _ _ _ hi (grownBy_putObj' W _ _) (λr e=> .inr (by cases e;omega)))) ?_;have II:∀(jump:Option Code) (W3:World),KeepsOthers (W.putObj (w.heap.size+1) (.loop {rec .ready none with state:= .busy})) W3->
     (Instr.endRound (w.heap.size+1) jump).run P W3= .ok (.bool jump.isNone) (W3.putObj (w.heap.size+1) (.loop (rec (if jump.isNone then .ready else .done) jump)))/\
     W3.heap[w.heap.size+1]?=some (.loop {rec .ready none with state:= .busy})/\
     (W3.putObj (w.heap.size+1) (.loop (rec (if jump.isNone then .ready else .done) jump))).heap[w.heap.size+1]?=some (.loop (rec (if jump.isNone then .ready else .done) jump))/\
     (W3.putObj (w.heap.size+1) (.loop (rec (if jump.isNone then .ready else .done) jump))).heap[w.heap.size]?=some (.deferred (some [])):=λjump W3 WS=>by
    have X3:=WS.same _ _ Z8 rfl;have:=run_endRound (P:=P) jump X3;rw[LI] at this⊢;exact⟨this,by rw[LI] at X3;exact X3,World.putObj_heap_same (As.1 X3).1,(World.putObj_heap_other Ab).trans (WS.same _ _ RJ rfl)⟩
   rintro e a3 W3 hp;cases e with
   |normal=>obtain⟨WS,mq,WQ,hne⟩:=hp;obtain⟨hr,X3,vn,oT⟩:=II none W3 WS;exact⟨_,_,hr,.inl ⟨rfl,⟨hI _ _ _ WQ (grownBy_putObj' W3 _ _) (λr e=> .inr (by cases e;omega)),vn,oT⟩,(lT.trans mq).trans (belowK_b (Af _) W3 _ _ _ Ab X3 rfl rfl),hne⟩⟩
   |ret=>obtain⟨WS,WQ,he⟩:=hp;obtain⟨hr,X3,vn,oT⟩:=II (some .ret) W3 WS;exact⟨_,_,hr,.inr ⟨rfl,⟨hIx _ _ _ WQ (grownBy_putObj' W3 _ _) (λr e=> .inr (by cases e;omega)),vn,oT⟩,he⟩⟩
   |exit id=>exact hp.elim
   |goto t=>exact hp.elim
   |panic ch=>exact hp.elim
   |outgrown=>exact hp.elim
  .rintro e W2 ⟨⟨v,rfl⟩,⟨hb,hi,hl,hk⟩|⟨hb,hi,hl,hk⟩⟩;.exact⟨none,_,by have:=run_endLoop (P:=P) hl (by rw[LI];simp);rw[LI] at this;exact this,Tf _ _ hb (hI _ _ _ hi (grownBy_putObj' W2 _ _) (λr e=> .inr (by cases e;omega))) ((World.putObj_heap_other Ab).trans hk) (Af _)⟩
   .exact⟨some .ret,_,by have:=run_endLoop (P:=P) hl (by rw[LI];simp);rw[LI] at this;exact this,rL _ _ hb (hIx _ _ _ hi (grownBy_putObj' W2 _ _) (λr e=> .inr (by cases e;omega))) ((World.putObj_heap_other Ab).trans hk) (Af _)⟩
def Ce{W:World}{k j:Nat}{v:Value}(o:Obj)(h:W.cell? ⟨k,j,none⟩=some v):(W.alloc o).cell? ⟨k,j,none⟩=some v:=by rw[World.cell?_alloc_past _ _ _ (Cr h)];exact h
def I9{W:World}{k j:Nat}{v:Value}(o:Obj)(h:W.cell? ⟨k,j,none⟩=some v):(W.alloc o).frozen? ⟨k,j,none⟩=W.frozen? ⟨k,j,none⟩:=
 World.frozen?_alloc_past _ _ _ (Cr h)
def Gs(W:World)(v:Value)(t:TypeId):(W.alloc (.cells #[v] t)).cell? ⟨W.heap.size,0,none⟩=some v/\(W.alloc (.cells #[v] t)).frozen? ⟨W.heap.size,0,none⟩=false:=by
 have h:(W.alloc (.cells #[v] t)).heap[W.heap.size]?=some (.cells #[v] t (0,0)):=World.alloc_heap_new W _;constructor;.simp only[World.cell?,h];rfl
 .simp only[World.frozen?,h];rfl
def Tg{A B:World}{row:Option Nat}{k:Nat}{v:Value}(h:A.cell? ⟨k,0,none⟩=some v)(hg:A.grownBy B row)(hr:∀r,row=some r->k≠r):
  B.cell? ⟨k,0,none⟩=some v/\B.frozen? ⟨k,0,none⟩=A.frozen? ⟨k,0,none⟩:=by
 have hb:B.heap[k]?=A.heap[k]?:=hg.block k (Cr h) (λe=>hr k e.symm rfl);exact⟨by rw[BI hb];exact h,by simp only[World.frozen?,hb]⟩
def mr(ga gn off n cap:Nat)(cs:List Aa)(up x:Int)(w:World)(ze:ga<w.heap.size)(fy:gn<w.heap.size)(MU:n<=cap)(hm:cap<=maxLen)
  (hc:w.cell? ⟨ga,0,none⟩=some (.slice (some ⟨gn,off,none⟩) n cap))
  (hx:∀(h:Int) (k:Nat) (v:Int),1<=h->h<=n->(k=1\/k=12)->Fq cs off h k=some v->w.cell? ⟨gn,off+(h.toNat-1)*13+k,none⟩=some (.int .i64 v))
  (b:Bool) (hcl:JL cs off n up (n+1) x=some b) (Wy:1<=up) (Ow:up<=n) (Qm:1<=x) (WU:x<=n):
  Calls Proofs.Tryz.prog 142 #[.pointer (some ⟨ga,0,none⟩),.int .i64 up,.int .i64 x] w λe w'=>e= .returned (.bool b)/\Below w.heap.size w w':=by
 refine(callsIn_wide (n:=5)).1 ?_;refine callsIn_of_wp_marks Proofs.Tryz.func142 rfl trivial ?_;simp only[Proofs.Tryz.ntmps142,Bl,AH,Bd,Nat.reduceAdd,Nat.reduceSub,Dp,Dq,Er,DF,Bj,BW];have p:((w.alloc (.cells #[.int .i64 up] 3)).alloc (.cells #[.bool false] 4)).cell? ⟨ga,0,none⟩=some (.slice (some ⟨gn,off,none⟩) n cap):=by rw[World.cell?_alloc_past _ _ _ D5,World.cell?_alloc_past _ _ _ ze];exact hc
 have t:=Gs w (.int .i64 up) 3;have d:=Gs (w.alloc (.cells #[.int .i64 up] 3)) (.bool false) 4;have s:=Gs ((w.alloc (.cells #[.int .i64 up] 3)).alloc (.cells #[.bool false] 4)) (.pointer (some ⟨ga,0,none⟩)) 37;have g:=Gs (((w.alloc (.cells #[.int .i64 up] 3)).alloc (.cells #[.bool false] 4)).alloc (.cells #[.pointer (some ⟨ga,0,none⟩)] 37)) (.int .i64 x) 3;have q:=Gs ((((w.alloc (.cells #[.int .i64 up] 3)).alloc (.cells #[.bool false] 4)).alloc (.cells #[.pointer (some ⟨ga,0,none⟩)] 37)).alloc (.cells #[.int .i64 x] 3)) (.bool true) 4;simp only[World.size_alloc] at d s g q;have E:decide (1<=up/\up<=n)=true:=Bs ⟨Wy,Ow⟩;have C:decide (1<=x/\x<=n)=true:=Bs ⟨Qm,WU⟩;gi_wp2
 refine⟨trivial,(callsIn_wide.2 (Te ga _ n cap up _ p)).mono ?_⟩;rintro e w' ⟨rfl,rfl⟩;rw[E];gi_wp2
 refine⟨trivial,(callsIn_wide.2 (Te ga _ n cap x _ p)).mono ?_⟩;rintro e w' ⟨rfl,rfl⟩;rw[C];gi_wp2
 refine⟨trivial,(callsIn_wide.2 (zc ga x _)).mono ?_⟩;rintro e w' ⟨rfl,rfl⟩;gi_wp2
 refine WT (gf:=208) (lb:=#[.pointer (some ⟨w.heap.size+1+1+1,0,none⟩),.pointer (some ⟨w.heap.size+1+1,0,none⟩),.pointer (some ⟨w.heap.size+1+1+1+1,0,none⟩)]) (w.heap.size+1+1+1) b up rfl (Go.Proofs.enters_of Proofs.Tryz.func208 AQ rfl) Au
  ?bU rfl
  (λW=>Below w.heap.size w W/\W.cell? ⟨w.heap.size,0,none⟩=some (.int .i64 up)/\W.cell? ⟨w.heap.size+1,0,none⟩=some (.bool false)/\W.frozen? ⟨w.heap.size+1,0,none⟩=false)
  (λW=>Below w.heap.size w W/\W.cell? ⟨w.heap.size+1,0,none⟩=some (.bool true)) ?hI ?hIx ?h0
  (λy=>{tmps:=#[.pointer (some ⟨ga,0,none⟩),.int .i64 up,.int .i64 x,undef,.pointer (some ⟨w.heap.size,0,none⟩),undef,.pointer (some ⟨w.heap.size+1,0,none⟩),.int .i64 y,.pointer (some ⟨ga,0,none⟩),.int .i64 up,.bool true,.bool false,.bool false,.pointer (some ⟨ga,0,none⟩),.int .i64 x,.bool true,.bool false,.bool false,.pointer (some ⟨ga,0,none⟩),.int .i64 x,.func (.func 208) #[] #[.pointer (some ⟨w.heap.size+1+1+1,0,none⟩),.pointer (some ⟨w.heap.size+1+1,0,none⟩),.pointer (some ⟨w.heap.size+1+1+1+1,0,none⟩)],.int .i64 y,undef,undef,undef],defers:=[]})
  ?hassign ?M0 ?Tf ?rL
 case hI=>rintro A B row ⟨h1,h2,c,o⟩ hg hr;have KH:=Cr c;have u:=Tg h2 hg (λr e=>by rcases hr r e with rfl|h<;>simp at* <;>omega);have i:=Tg c hg (λr e=>by rcases hr r e with rfl|h<;>simp at* <;>omega);exact⟨h1.grown hg Ab (λk e=>by rcases hr k e with rfl|h<;>simp at* <;>omega),u.1,i.1,i.2.trans o⟩
 case hIx=>rintro A B row ⟨h1,c⟩ hg hr;have KH:=Cr c;have i:=Tg c hg (λr e=>by rcases hr r e with rfl|h<;>simp at* <;>omega);exact⟨h1.grown hg Ab (λk e=>by rcases hr k e with rfl|h<;>simp at* <;>omega),i.1⟩
 case h0=>
  refine⟨(((((Below.refl _ w).alloc (Af _) _).alloc Au _).alloc D5 _).alloc D5 _).alloc D5 _,?_,?_,?_⟩;.exact Ce _ (Ce _ (Ce _ (Ce _ t.1)))
  .exact Ce _ (Ce _ (Ce _ d.1))
  .rw[I9 _ (Ce _ (Ce _ d.1)),I9 _ (Ce _ d.1),I9 _ d.1];exact d.2
 case bU=>
  intro l J Jx W hW z hY hj;have kk:∀{k j:Nat} {v:Value},(((((w.alloc (.cells #[.int .i64 up] 3)).alloc (.cells #[.bool false] 4)).alloc (.cells #[.pointer (some ⟨ga,0,none⟩)] 37)).alloc (.cells #[.int .i64 x] 3)).alloc (.cells #[.bool true] 4)).cell? ⟨k,j,none⟩=some v->W.cell? ⟨k,j,none⟩=some v:=
   λ{k j v} h=>by rw[BI (hW.block k (Cr h))];exact h
  have hs:YK (w.heap.size+1+1) (w.heap.size+1+1+1+1) ga gn off n cap cs W:=
   ⟨kk (Ce _ (Ce _ s.1)),kk q.1,kk (Ce _ (Ce _ (Ce _ p))),λh k v h1 h2 c o=>kk (Ce _ (Ce _ (Ce _ (Ce _ (Ce _ (hx h k v h1 h2 c o))))))⟩
  refine zd 4 l (w.heap.size+1+1+1) (w.heap.size+1+1) (w.heap.size+1+1+1+1) _ ga gn off n cap cs up J Jx z hY ?_ Au MU hm W x hs (kk (Ce _ g.1)) ?_ (n+1) b hcl hj;.rintro b (rfl|rfl|rfl|rfl)<;>simp<;>omega
  .have:W.frozen? ⟨w.heap.size+1+1+1,0,none⟩=_:=World.frozen?_of_block (hW.block (w.heap.size+1+1+1) Au);rw[this,I9 _ g.1];exact g.2
 case hassign=>
  intro l y W K hK;have mv:=Oper.semAt_some l;gi_wp2
  exact hK
 case M0=>
  rintro l y W ⟨hb,UC,Jr,dy⟩;have mv:=Oper.semAt_some l;gi_wp2
  .rename_i he;obtain rfl:y=up:=eq_of_beq he;exact⟨KeepsOthers.setCell _ _ _,⟨hb.setCell (D7 _) _,World.cell?_setCell_same _ _ _ Jr⟩,rfl⟩
  .rename_i he;exact⟨KeepsOthers.refl _,Below.refl _ _,⟨hb,UC,Jr,dy⟩,λe=>by subst e;simp at he⟩
 case Tf=>
  rintro D W rfl ⟨hb,UC,Jr,dy⟩ hK m;gi_wp2
  have f:=(KeepsOthers.setCell W ⟨w.heap.size+1,0,none⟩ (.bool false)).same D _ hK rfl;have a:=cell_kept (World.cell?_setCell_same W ⟨w.heap.size+1,0,none⟩ (.bool false) Jr) (grownBy_putObj' _ D (.deferred none)) (λr e=>by cases e;exact⟨_,f,rfl⟩);refine⟨Au,.inl ⟨_,_,rfl,run_takeDeferred f,?_⟩⟩;refine⟨.bool false,?_,rfl,(hb.setCell (D7 _) _).grown (grownBy_putObj' _ D _) (by have:=Cr Jr;simp;omega) (λk e=>by cases e;simp at m;omega)⟩;simp[results,Proofs.Tryz.f142,go_sem,a]
 case rL=>
  rintro D W rfl ⟨hb,Jr⟩ hK m;gi_wp2
  have a:=cell_kept Jr (grownBy_putObj' _ D (.deferred none)) (λr e=>by cases e;exact⟨_,hK,rfl⟩);refine⟨Au,.inl ⟨_,_,rfl,run_takeDeferred hK,?_⟩⟩;refine⟨.bool true,?_,rfl,hb.grown (grownBy_putObj' _ D _) (by have:=Cr Jr;omega) (λk e=>by cases e;simp at m;omega)⟩;simp[results,Proofs.Tryz.f142,go_sem,a]
def Th(ga:Nat)(p:Option Addr)(n cap:Nat)(up x:Int)(w:World)(hc:w.cell? ⟨ga,0,none⟩=some (.slice p n cap))(ho:¬(1<=up/\up<=n/\1<=x/\x<=n)):
  Calls Proofs.Tryz.prog 142 #[.pointer (some ⟨ga,0,none⟩),.int .i64 up,.int .i64 x] w λe w'=>e= .returned (.bool false)/\Below w.heap.size w w':=by
 have c:((w.alloc (.cells #[.int .i64 up] 3)).alloc (.cells #[.bool false] 4)).cell? ⟨ga,0,none⟩=some (.slice p n cap):=Ce _ (Ce _ hc);have a:=Gs (w.alloc (.cells #[.int .i64 up] 3)) (.bool false) 4;simp only[World.size_alloc] at a;have hb:Below w.heap.size w ((w.alloc (.cells #[.int .i64 up] 3)).alloc (.cells #[.bool false] 4)):=((Below.refl _ w).alloc (Af _) _).alloc Au _;refine(callsIn_wide (n:=5)).1 ?_;refine callsIn_of_wp Proofs.Tryz.func142 rfl trivial ?_ rfl;simp only[Proofs.Tryz.ntmps142,Bl,AH,Bd,Nat.reduceAdd,Nat.reduceSub,Dp,Dq,Er,DF,Bj,BW];by_cases h1:1<=up/\up<=n
 .have b:decide (1<=up/\up<=n)=true:=Bs h1;have d:decide (1<=x/\x<=n)=false:=Bk λh2=>ho ⟨h1.1,h1.2,h2.1,h2.2⟩;gi_wp2
  refine⟨trivial,(callsIn_wide.2 (Te ga _ n cap up _ c)).mono ?_⟩;rintro e w' ⟨rfl,rfl⟩;rw[b];gi_wp2
  refine⟨trivial,(callsIn_wide.2 (Te ga _ n cap x _ c)).mono ?_⟩;rintro e w' ⟨rfl,rfl⟩;rw[d];gi_wp2
  refine bodyPost_ret (v:= .bool false) ?_ rfl ⟨rfl,hb⟩;simp[results,Proofs.Tryz.f142,go_sem,a.1]
 .have b:decide (1<=up/\up<=n)=false:=Bk h1;gi_wp2
  refine⟨trivial,(callsIn_wide.2 (Te ga _ n cap up _ c)).mono ?_⟩;rintro e w' ⟨rfl,rfl⟩;rw[b];gi_wp2
  refine⟨trivial,?_⟩;gi_wp2
  refine bodyPost_ret (v:= .bool false) ?_ rfl ⟨rfl,hb⟩;simp[results,Proofs.Tryz.f142,go_sem,a.1]
section
variable{h:Ag}
def WV{cs:List Aa}{off:Nat}{x:Int}{k:Nat}{v:Int}(e:Fq cs off x k=some v):cs[off+(x.toNat-1)*13+k]?=some (.int .i64 v):=by
 unfold Fq at e;split at e;.rename_i a;cases e;exact a
 .cases e
def xW(n:Nat)(args:List Aa)(r:Aa)(h':Ag)(Ay:IT.step (BK cx) (IT.run (BK cx) n) (LG args) h=some (.ret,[r],h')):
  (∃fn c,cx.P.funcs[DE 142]?=some fn/\(fn.name== "runtime.NumGoroutine")=false/\fn.body=some c)/\
  ∀(U:Gh) (w:World) (cargs:Array Value),Fg U h w->(∀g cs,cx.Fl g=some cs->Co U cs g 0)->AK U args cargs.toList->
   Calls cx.P (DE 142) cargs w λe w'=>match e with
    | .returned v=>∃d,Fg d h' w'/\IB U w d w'/\Bp d r v/\(cx.HP 142=true->∃s c,Hq d w.heap.size w' s c v r)
    |_=>False:=by
 refine⟨⟨_,_,Proofs.Tryz.func142,rfl,rfl⟩,λU w cargs hi hg ha=>?_⟩;simp only[LG,IT.step,D4] at Ay;cases e0:LF h args with
 |none=>simp[e0] at Ay
 |some B=>
 obtain⟨h1,D⟩:=B;simp only[e0] at Ay;cases Ay;have II:∀(b:Bool) (cs:Array Value),h'=h->r= .bool b->Calls Proofs.Tryz.prog 142 cs w (λe w'=>e= .returned (.bool b)/\Below w.heap.size w w')->
   Calls cx.P (DE 142) cs w λe w'=>match e with
    | .returned v=>∃d,Fg d h' w'/\IB U w d w'/\Bp d r v/\(cx.HP 142=true->∃s c,Hq d w.heap.size w' s c v r)
    |_=>False:=by
  rintro b cs rfl rfl hc;refine hc.mono λe w' he=>?_;obtain⟨rfl,hb⟩:=he;obtain⟨NR,KI⟩:=hi.GN hb;exact⟨U,NR,KI,rfl,λe=>by cases e⟩
 unfold LF at e0;split at e0
 .rename_i id up x;obtain⟨v0,us,wC,⟨g,hm,rfl⟩,C,k_,rfl,rfl,v2,aI,rfl,rfl,hnil⟩:=ha;cases hnil;have a:cargs=#[.pointer (some ⟨g,0,none⟩),.int .i64 up,.int .i64 x]:=by apply Fe;simpa using wC
  subst a;split at e0;.rename_i l hc;cases e0;obtain⟨_,y,hy,i⟩:=hi.N5 hc hm (j:=0) rfl;cases i;exact II false _ rfl rfl (Th g none 0 0 up x w hy Ab)
  .rename_i u off len l hc;split at e0
   .rename_i cs hcs;split at e0
    .rename_i hl;obtain⟨_,y,hy,gn,cap,rD,rfl,p,⟨E,o⟩,m⟩:=hi.N5 hc hm (j:=0) rfl;have ze:g<w.heap.size:=Cr hy;have fy:gn<w.heap.size:=by obtain⟨⟨us,e,fr,q,F⟩,_⟩:=hi.sz gn _ m;exact(As.1 q).1
     split at e0
     .rename_i hr;cases e1:JL cs off len up (len+1) x with
      |none=>simp[e1] at e0
      |some b=>simp only[e1,BM,Bv,Jp] at e0;obtain⟨rfl,rfl⟩:=e0;refine II b _ rfl rfl (mr g gn off len cap cs up x w ze fy p o hy (λt k v h1 h2 G A=>?_) b e1 hr.1 hr.2.1 hr.2.2.1 hr.2.2.2);obtain⟨_,z,hz,f⟩:=hi.N5 hcs rD (WV A);cases f;exact hz
     .rename_i hr;cases e0;exact II false _ rfl rfl (Th g _ len cap up x w hy hr)
    .cases e0
   .cases e0
  .cases e0
 .cases e0
end
def Mw{T e:TypeId}{B b:Nat}{bs:List Value}{W W':World}(h:Lib.IsBuilder T e B b bs W)(hb:Below W.heap.size W W'):Lib.IsBuilder T e B b bs W':=by
 have key:∀p,Lib.BuilderAt T e B b p bs W->Lib.BuilderAt T e B b p bs W':=λp ⟨hB,v,Ň,hown,hne⟩=>by refine⟨hB,v,(hb.block b (As.1 Ň).1).trans Ň,?_,hne⟩;exact hown.kept (row:=none) ⟨hb.os,hb.tape,hb.output,hb.size,λk hk _=>hb.block k hk⟩ (Classical.em _)
 exact h.imp (key _) (key _)
def IQ(a b:List UInt8):Lib.byteCells (a++b)=Lib.byteCells a++Lib.byteCells b:=by simp[Lib.byteCells]
def byteCells_length(a:List UInt8):(Lib.byteCells a).length=a.length:=by simp[Lib.byteCells]
def bV(d:Nat):Lib.repeatL [32,32] d=List.replicate (2*d) 32:=by
 induction d with
 |zero=>rfl
 |succ d ih=>rw[Lib.repeatL,ih,(Ab:2*(d+1)=2*d+1+1),U9,U9];rfl
def bW:∀a:Aa,a.KE=true->a.still=true
 | .bool _,_=>rfl
 | .int _ _,_=>rfl
 | .str _,_=>rfl
 |a,h=>by cases a<;>first|rfl|simp[Aa.KE] at h
def Re:∀l:List Aa,l.all Aa.KE=true->HS l=true
 |[],_=>rfl
 |a::l,h=>by simp only[Wj,Bi] at h;simp only[HS,Bi];exact⟨bW a h.1,Re l h.2⟩
section
variable{U:Gh}{h:Ag}{w:World}
def YL(hi:Fg U h w){id g:Nat}{cs:List Aa}(hc:h[id]?=some (.cells cs))(hm:U.mu id=some g):∀(n o:Nat),o+n<=cs.length->KT (B9 cs 1 o n)=true->
  (B9 cs 1 o n).length=n/\DY (E3 w) (B9 cs 1 o n) 1 g o
 |0,o,_,_=>⟨rfl,trivial⟩
 |n+1,o,hl,hs=>by
  have hlt:o<cs.length:=Ab;have e1:(cs.drop o).take 1=[cs[o]]:=by rw[AE hlt];rfl
  have XV:HS ((cs.drop o).take 1)=true/\KT (B9 cs 1 (o+1) n)=true:=by simpa only[B9,KT,Bi] using hs
  obtain⟨p,q⟩:=YL hi hc hm n (o+1) Ab XV.2;rw[e1] at XV;have Hz:cs[o].still=true:=by simpa[HS] using XV.1
  obtain⟨u,hu,h1,hr⟩:=H5 hi hc hm (Ap hlt);refine⟨by simp[B9,p],?_⟩;simp only[B9,e1];exact⟨rfl,⟨⟨u,Ql hu h1,Bp.mem hi _ _ Hz hr⟩,trivial⟩,q⟩
def WW(w:World)(b o:Nat)(AP:List (List Aa)):Prop:=
 ∃v,w.cell? ⟨b,o,none⟩=some v/\((v= .slice none 0 0/\AP=[])\/
  (∃a c cap,v= .slice (some ⟨a,c,none⟩) AP.length cap/\AP.length<=cap/\cap<=maxLen/\a<w.heap.size/\DY (E3 w) AP 1 a c))
def rM(hi:Fg U h w){id g:Nat}(hm:U.mu id=some g){x:Int}{h1:Ag}{r:Aa}(e:lY h [.ptr (some (id,0)),.int .i64 x]=some (h1,r)):
  h1=h/\∃gn off n cap row c AP,r= .tuple [.Cb row,.int .i64 c,.sl 1 AP]/\g<w.heap.size/\gn<w.heap.size/\w.cell? ⟨g,0,none⟩=some (.slice (some ⟨gn,off,none⟩) n cap)/\n<=cap/\cap<=maxLen/\
   1<=x/\x<=n/\Co (E3 w) row gn (off+(x.toNat-1)*13)/\w.cell? ⟨gn,off+(x.toNat-1)*13+11,none⟩=some (.int .i64 c)/\WW w gn (off+(x.toNat-1)*13+2) AP:=by
 unfold lY at e;split at e
 .rename_i EI x' Hy;cases Hy;split at e
  .rename_i T off n l hc;split at e
   .rename_i cs hcs;split at e
    .rename_i hx;split at e
     .rename_i z c1 c2 v t s q p o k X2 c fq hrow;split at e
      .rename_i Hz;simp only[HS,Bi,KB] at Hz;obtain⟨s0,O,N,M,L,K,J,I,H,B,A⟩:=Hz;obtain⟨_,y,hy,gn,cap,rD,rfl,G,⟨W,F⟩,R⟩:=hi.N5 hc hm (j:=0) rfl;have fy:gn<w.heap.size:=by obtain⟨⟨us,e,fr,C,S⟩,_⟩:=hi.sz gn _ R;exact(As.1 C).1
       have get:∀(j:Nat) (a:Aa),j<13->[z,c1,c2,v,t,s,q,p,o,k,X2,.int .i64 c,fq][j]?=some a->cs[off+(x.toNat-1)*13+j]?=some a:=λj a hj ha=>by rw[<-hrow,Ca hj,Cc] at ha;exact ha
       have key:∀(j:Nat) (a:Aa),j<13->[z,c1,c2,v,t,s,q,p,o,k,X2,.int .i64 c,fq][j]?=some a->a.still=true->∃u,(E3 w).GA gn (off+(x.toNat-1)*13+j)=some u/\Bp (E3 w) a u:=λj a hj ha hs=>by obtain⟨u,hu,ho,hr⟩:=H5 hi hcs rD (get j a hj ha);exact⟨u,Ql hu ho,Bp.mem hi _ _ hs hr⟩
       have gR:w.cell? ⟨gn,off+(x.toNat-1)*13+11,none⟩=some (.int .i64 c):=by obtain⟨u,hu,_,hr⟩:=H5 hi hcs rD (get 11 _ Ab rfl);cases hr;exact hu
       obtain⟨V,Ow,gB,JT⟩:=H5 hi hcs rD (get 2 c2 Ab rfl);have mk:∀(D:Aa),(∃u,(E3 w).GA gn (off+(x.toNat-1)*13+2)=some u/\Bp (E3 w) D u)->Co (E3 w) [z,c1,D,v,t,s,q,p,o,k,X2,.int .i64 c,fq] gn (off+(x.toNat-1)*13):=λD h2=>⟨key 0 z Ab rfl s0,key 1 c1 Ab rfl O,h2,key 3 v Ab rfl N,key 4 t Ab rfl M,key 5 s Ab rfl L,key 6 q Ab rfl K,key 7 p Ab rfl J,key 8 o Ab rfl I,key 9 k Ab rfl H,key 10 X2 Ab rfl B,key 11 _ Ab rfl rfl,key 12 fq Ab rfl A,trivial⟩
       have hg:=Cr hy;split at e;.cases e;cases JT;exact⟨rfl,gn,off,n,cap,_,c,[],rfl,hg,fy,hy,G,F,hx.1,hx.2.1,mk _ ⟨_,Ql Ow gB,rfl⟩,gR,_,Ow,.inl ⟨rfl,rfl⟩⟩
       .rename_i KU f m;split at e
        .rename_i ks qL;split at e
         .rename_i hk;cases e;obtain⟨i,b,ő,rfl,E,⟨r2,Q⟩,P⟩:=JT;obtain⟨d,t2⟩:=YL hi qL ő m f Ab hk.2;have Œ:i<w.heap.size:=by obtain⟨⟨us,e,fr,C,S⟩,_⟩:=hi.sz i _ P;exact(As.1 C).1
          refine⟨rfl,gn,off,n,cap,_,c,B9 ks 1 f m,rfl,hg,fy,hy,G,F,hx.1,hx.2.1,mk _ ⟨_,Ql Ow gB,⟨i,f,none⟩,b,by rw[d],by rw[d];exact E,.inl rfl,t2⟩,gR,_,Ow,.inr ⟨i,f,b,by rw[d],by rw[d];exact E,Q,Œ,t2⟩⟩
         .cases e
        .cases e
       .cases e
      .cases e
     .cases e
    .cases e
   .cases e
  .cases e
 .cases e
def xX{n:Nat}(hs:DO cx (IT.run (BK cx) n))(hi:Fg U h w)(hg:∀g cs,cx.Fl g=some cs->Co U cs g 0){row:List Aa}{s:Aq}{h1:Ag}(e:IT.run (BK cx) n (BK cx 103 [.Cb row]) []=some (.ret,[.str s],h1))
  {W:World} (hb:Below w.heap.size w W) {gn o:Nat} (hr:Co (E3 w) row gn o):
  Calls Proofs.Tryz.prog 103 #[.pointer (some ⟨gn,o,none⟩)] W λe W'=>e= .returned (.string ⟨⟨s⟩⟩)/\Below W.heap.size W W':=by
 refine((hs.2 103 _ _ _ _ e).2 (E3 W) W #[.pointer (some ⟨gn,o,none⟩)] (rF W) (λg cs wA=>Co.mono (YH hb) cs g 0 (Co.mem hi cs g 0 (Re cs (hs.1.1 g cs wA)) (hg g cs wA)))
  ⟨_,_,rfl,⟨gn,o,rfl,Co.mono (YH hb) row gn o hr⟩,rfl⟩).mono λe W' he=>?_
 cases e with
 |returned v=>obtain⟨a,_,ha,hv,_⟩:=he;cases hv;exact⟨rfl,ha.os,ha.tape,ha.output,ha.size,λk hk=>(ha.KF k hk (λid=>by simp[E3])).1⟩
 |_=>exact he.elim
end
def xY{w:World}{b o:Nat}{AP:List (List Aa)}(h:WW w b o AP):∃p cap,w.cell? ⟨b,o,none⟩=some (.slice p AP.length cap)/\AP.length<=cap/\cap<=maxLen/\
  ∀(i:Nat) (y:Int),AP[i]?=some [.int .i64 y]->∃a c,p=some ⟨a,c,none⟩/\a<w.heap.size/\w.cell? ⟨a,c+i,none⟩=some (.int .i64 y):=by
 obtain⟨v,hv,⟨rfl,rfl⟩|⟨a,c,cap,rfl,h1,h2,e,d⟩⟩:=h;.exact⟨none,0,hv,Af _,Be,λi y hi=>by simp at hi⟩
 .refine⟨_,cap,hv,h1,h2,λi y hi=>⟨a,c,rfl,e,?_⟩⟩;obtain⟨_,⟨u,hu,hr⟩,_⟩:=DY.get d hi;cases hr;have:=hu;simp only[E3,NU] at this;simpa using this.1
def YM(l:List UInt8):Lib.strCells ⟨l.toArray⟩=Lib.byteCells l:=by simp[Lib.strCells,Lib.byteCells]
def WX(l:List UInt8):Lib.strCells ⟨⟨l⟩⟩=Lib.byteCells l:=by simp[Lib.strCells,Lib.byteCells]
def Ox(i n:Nat)(h:i<n)(hn:n<=9223372036854775807):wrap64 ((i:Int)+1)=((i+1:Nat):Int):=by rw[Go.IntWalk.wrap64_in _ ⟨Ab,Ab⟩];omega
def VE(d:Nat)(h:d<=1000):wrap64 ((d:Int)+1)=((d+1:Nat):Int):=by rw[Go.IntWalk.wrap64_in _ ⟨Ab,Ab⟩];omega
abbrev oU(g:Nat)(w0:World)(x:Int)(d:Nat)(C2 Oy:Aq):Prop:=
 ∀(B b:Nat) (W:World),w0.heap.size<=B->B<=W.heap.size->Below w0.heap.size w0 W->Lib.IsBuilder 124 5 B b (Lib.byteCells C2) W->
  Calls Proofs.Tryz.prog 57 #[.pointer (some ⟨g,0,none⟩),.pointer (some ⟨b,0,none⟩),.int .i64 x,.int .i64 d] W λe W'=>(∃v,e= .returned v)/\Lib.IsBuilder 124 5 B b (Lib.byteCells Oy) W'/\Below B W W'
def mC{p:Prop}(h:p):Hid p:=h
def Kj{w0 W':World}{k j:Nat}{v:Value}(hb:Below w0.heap.size w0 W')(h:w0.cell? ⟨k,j,none⟩=some v):W'.cell? ⟨k,j,none⟩=some v:=by rw[BI (hb.block k (Cr h))];exact h
def bX:Code->Code
 | .seq _ c=>bX c
 | .block _ c=>c
 |c=>c
noncomputable def rN:Code:=match Proofs.Tryz.f57.body with
 |some c=>bX c
 |none=> .skip
def rO{w0 W W6:World}{g B b d a:Nat}{p:Option Addr}{AP:List (List Aa)}(hB:w0.heap.size<=B)(h:B<=W.heap.size)(hb:Below w0.heap.size w0 W)(hd:d<=1000)
  (RJ:AP.length<=a) (WS:a<=maxLen) (oT:∀(i:Nat) (y:Int),AP[i]?=some [.int .i64 y]->∃j ko,p=some ⟨j,ko,none⟩/\j<w0.heap.size/\w0.cell? ⟨j,ko+i,none⟩=some (.int .i64 y))
  (f:Nat->Aq) (hf:∀i,i<AP.length->∃y,AP[i]?=some [.int .i64 y]/\oU g w0 y (d+1) (f i) (f (i+1))) (vo:Below B W W6) (l6:Lib.IsBuilder 124 5 B b (Lib.byteCells (f 0)) W6)
  (z2 z4 z5 z6 z7 z8 z9 z10 z11 z12 Z z14 Y z16 X V U z20 T z22 S R Q P O N M L K J I H G F z37 E D C A z x w u t s z51 r z53 q o n m l:Value):
  rN.wpIn Fence.wide 5 Proofs.Tryz.prog (Exit.inBlock 0<|bodyPost Proofs.Tryz.prog Proofs.Tryz.f57 λe W'=>(∃v,e= .returned v)/\Lib.IsBuilder 124 5 B b (Lib.byteCells (f AP.length)) W'/\Below B W W')
   {tmps:=#[.pointer (some ⟨g,0,none⟩),.pointer (some ⟨b,0,none⟩),z2,.int .i64 d,z4,z5,z6,z7,z8,z9,z10,z11,z12,Z,z14,Y,z16,X,V,U,z20,T,z22,S,R,Q,P,O,N,M,L,K,J,I,H,G,F,z37,E,D,C,A,z,x,w,u,.slice p AP.length a,.int .i64 AP.length,.int .i64 0,t,s,z51,r,z53,q,o,n,m,l],defers:=[]} W6:=by
 simp only[rN,bX,Proofs.Tryz.f57];gi_loopg [48] AP.length (λk v wr=>∃i,i<=AP.length/\k=AP.length-i/\v= .int .i64 (i:Nat)/\Below B W wr/\Lib.IsBuilder 124 5 B b (Lib.byteCells (f i)) wr)
 case atStart=>exact⟨0,A8 _,rfl,rfl,vo,l6⟩
 case round=>
  obtain⟨i,hi,rfl,rfl,bbi,li⟩:=hrel;by_cases hlt:i<AP.length
  .obtain⟨y,hy,f_⟩:=hf i hlt;obtain⟨j,ko,rfl,Œ,GC⟩:=oT i y hy;have c:Below w0.heap.size w0 wr:=hb.trans (bbi.mono hB);have ci:=Kj c GC;have zf:(i:Int)<(AP.length:Int):=by exact_mod_cast hlt
   have zg:=Ox i _ hlt (A5 RJ WS);have hwd:=VE d hd;have QZ:=f_ B b _ hB (A5 h bbi.size) c li;clear f_ hf oT RJ WS c li l6 vo GC hy Œ hB h hb;rw[show((d+1:Nat):Int)=(d:Int)+1 from rfl] at QZ;gi_wp2
   refine⟨trivial,(callsIn_wide.2 QZ).mono ?_⟩;rintro e W7 ⟨⟨v,rfl⟩,l7,b7⟩;gi_wp2
   gi_roundg (AP.length-(i+1))
   case measure=>exact Vc hlt (ID i)
   case rel=>refine⟨i+1,hlt,rfl,?_,bbi.trans b7,l7⟩;first|rfl|exact B1 (Value.int .i64) zg
  .obtain rfl:i=AP.length:=oJ hi (fL hlt);gi_wp2
   go_end0
   exact⟨⟨_,rfl⟩,li,bbi⟩
def mw{w0:World}{g gn off n cap:Nat}{c x:Int}{AP:List (List Aa)}(lz:g<w0.heap.size)(fy:gn<w0.heap.size)(hc:w0.cell? ⟨g,0,none⟩=some (.slice (some ⟨gn,off,none⟩) n cap))(MU:n<=cap)(hm:cap<=maxLen)
  (Qm:1<=x) (WU:x<=n) (gS:w0.cell? ⟨gn,off+(x.toNat-1)*13+11,none⟩=some (.int .i64 c)) (hk:WW w0 gn (off+(x.toNat-1)*13+2) AP)
  {d:Nat} (hd:d<=1000) {C2 h s:Aq}
  (gT:∀W,Below w0.heap.size w0 W->Calls Proofs.Tryz.prog 103 #[.pointer (some ⟨gn,off+(x.toNat-1)*13,none⟩)] W λe W'=>e= .returned (.string ⟨⟨s⟩⟩)/\Below W.heap.size W W')
  (hlen:(C2++List.replicate (2*d) 32++s++[10]).length<=AO)
  (gU:(c=0/\h=C2++List.replicate (2*d) 32++s++[10])\/(c≠0/\oU g w0 c (d+1) (C2++List.replicate (2*d) 32++s++[10]) h))
  (f:Nat->Aq) (wB:f 0=h) (hf:∀i,i<AP.length->∃y,AP[i]?=some [.int .i64 y]/\oU g w0 y (d+1) (f i) (f (i+1))):
  oU g w0 x d C2 (f AP.length):=by
 intro B b W hB a hb my;obtain⟨p,I,XW,RJ,WS,oT⟩:=xY hk;have ew:AO=140737488355328:=rfl;simp only[Ao,F0,AH,Bd] at hlen;have H:2*d<=140737488355328:=by rw[ew] at hlen;omega
 have G:(Lib.byteCells C2).length+(⟨(List.replicate (2*d) (32:UInt8)).toArray⟩:ByteArray).size<=140737488355328:=by rw[ew] at hlen;rw[byteCells_length];simp only[ByteArray.size,Bl,F0];omega
 have F:(Lib.byteCells (C2++List.replicate (2*d) 32)).length+(⟨⟨s⟩⟩:ByteArray).size<=140737488355328:=by rw[ew] at hlen;rw[byteCells_length];simp only[ByteArray.size,Ao,F0];show _+s.length<=_;omega
 have E:(Lib.byteCells (C2++List.replicate (2*d) 32++s)).length+1<=140737488355328:=by rw[ew] at hlen;rw[byteCells_length];simp only[Ao,F0];omega
 have D:d<=9223372036854775807:=A5 hd Be;clear hlen ew;have Hline:=mC gT;have k:=mC gU;have L:=mC hf;have r:=mC oT;have u:=mC RJ;have t:=mC WS;clear gT gU hf oT hk RJ WS;refine(callsIn_wide (n:=5)).1 ?_;refine callsIn_of_wp Proofs.Tryz.func57 rfl trivial ?_ rfl;simp only[Proofs.Tryz.ntmps57,Bl,AH,Bd,Nat.reduceAdd,Nat.reduceSub,Dp,Dq,Er,DF,Bj,BW];gi_wp2
 refine⟨trivial,(callsIn_wide.2 (mm g gn off n cap x _ (Kj hb hc) Qm WU MU hm)).mono ?_⟩;rintro e w' ⟨rfl,rfl⟩;gi_wp2
 refine⟨trivial,(callsIn_wide.2 (Proofs.Tryz.strings_Repeat ⟨#[32,32]⟩ d _ D H)).mono ?_⟩;rintro e W1 ⟨rfl,b1⟩;have MI:Below w0.heap.size w0 W1:=hb.trans (b1.mono hb.size);have q:Below B W W1:=b1.mono a;have l1:=Mw my b1;have hr:(Lib.repeatL (⟨#[32,32]⟩:ByteArray).data.toList d)=List.replicate (2*d) 32:=bV d;rw[hr];gi_wp2
 refine⟨trivial,(callsIn_wide.2 (Proofs.Tryz.Builder_WriteString B b (Lib.byteCells C2) _ _ l1 G (A5 a q.size))).mono ?_⟩;rintro e W2 ⟨rfl,l2,b2⟩;rw[YM,<-IQ] at l2;have o:=q.trans b2;have M4:Below w0.heap.size w0 W2:=MI.trans (b2.mono hB);gi_wp2
 refine⟨trivial,(callsIn_wide.2 (Hline.out _ M4)).mono ?_⟩;rintro e W3 ⟨rfl,b3⟩;have mz:Below w0.heap.size w0 W3:=M4.trans (b3.mono M4.size);have m:Below B W W3:=o.trans (b3.mono (A5 a o.size));have l3:=Mw (.inr l2) b3;gi_wp2
 refine⟨trivial,(callsIn_wide.2 (Proofs.Tryz.Builder_WriteString B b _ _ _ l3 F (A5 a m.size))).mono ?_⟩;rintro e O ⟨rfl,l4,b4⟩;rw[WX,<-IQ] at l4;have l:=m.trans b4;have yz:Below w0.heap.size w0 O:=mz.trans (b4.mono hB);gi_wp2
 refine⟨trivial,(callsIn_wide.2 (Proofs.Tryz.Builder_WriteByte B b _ 10 _ (.inr l4) E (A5 a l.size))).mono ?_⟩;rintro e K ⟨rfl,w,b5⟩;have C:Lib.byteCells (C2++List.replicate (2*d) 32++s)++[Value.int .u8 10]=Lib.byteCells (C2++List.replicate (2*d) 32++s++[10]):=by rw[IQ (C2++List.replicate (2*d) 32++s) [10]];rfl
 replace w:=C▸w;have j:=l.trans b5;have œ:Below w0.heap.size w0 K:=yz.trans (b5.mono hB);have P:=Kj œ gS;clear MU hm Qm WU hc H G F E D l1 l3 l4 l2;rcases k.out with⟨rfl,rfl⟩|⟨zh,rP⟩
 .have vo:=j;have l6:Lib.IsBuilder 124 5 B b (Lib.byteCells (f 0)) K:=by rw[wB];exact .inr w
  have N:=Kj œ XW;gi_wp2
  exact rO hB a hb hd u.out t.out r.out f L.out vo l6 _ _ _ _ _ _ _ _ _ _ _ _ _ _ _ _ _ _ _ _ _ _ _ _ _ _ _ _ _ _ _ _ _ _ _ _ _ _ _ _ _ _ _ _ _ _ _ _ _ _ _ _ _
 .have hne:(c != 0)=true:=by simp[zh]
  have M:=VE d hd;have zi:=rP B b _ hB (A5 a j.size) œ (.inr w);rw[show((d+1:Nat):Int)=(d:Int)+1 from rfl] at zi;gi_wp2
  refine⟨trivial,(callsIn_wide.2 zi).mono ?_⟩;rintro e J ⟨⟨v,rfl⟩,z,b6⟩;have vo:=j.trans b6;have A:Below w0.heap.size w0 J:=œ.trans (b6.mono hB);have l6:Lib.IsBuilder 124 5 B b (Lib.byteCells (f 0)) J:=by rw[wB];exact z
  have N:=Kj A XW;gi_wp2
  exact rO hB a hb hd u.out t.out r.out f L.out vo l6 _ _ _ _ _ _ _ _ _ _ _ _ _ _ _ _ _ _ _ _ _ _ _ _ _ _ _ _ _ _ _ _ _ _ _ _ _ _ _ _ _ _ _ _ _ _ _ _ _ _ _ _ _
section
variable{U:Gh}{h:Ag}{w0:World}
abbrev m_(fuel d:Nat)(a:Aa):List Aa->(Aq->IT)->Aq->IT:=λKU K C2=>match KU with
 |[.int .i64 y]=>Gj 103 a fuel y (d+1) C2 K
 |_=> .fail
def YN{run:IT->Ag->Option IF}{g fuel d:Nat}{a:Aa}(ih:∀(x:Int) (C2:Aq) (k:Aq->IT) (res:IF),IT.step (BK cx) run (Gj 103 a fuel x (d+1) C2 k) h=some res->∃Oy,IT.step (BK cx) run (k Oy) h=some res/\oU g w0 x (d+1) C2 Oy):
  ∀(AP:List (List Aa)) (C2:Aq) (k:Aq->IT) (res:IF),IT.step (BK cx) run (AP.foldr (m_ fuel d a) k C2) h=some res->
   ∃f:Nat->Aq,f 0=C2/\IT.step (BK cx) run (k (f AP.length)) h=some res/\∀i,i<AP.length->∃y,AP[i]?=some [.int .i64 y]/\oU g w0 y (d+1) (f i) (f (i+1))
 |[],C2,k,res,e=>⟨λ_=>C2,rfl,e,λi hi=>by simp at hi⟩
 |KU::AP,C2,k,res,e=>by
  simp only[List.foldr_cons] at e;unfold m_ at e;split at e
  .rename_i y;obtain⟨b,e1,c1⟩:=ih _ _ _ _ e;obtain⟨f,f0,f1,f2⟩:=YN ih AP b k res e1;refine⟨λ|0=>C2|i+1=>f i,rfl,f1,λi hi=>?_⟩;cases i with
   |zero=>
    have hc:oU g w0 y (d+1) C2 (f 0):=by rw[f0];exact c1
    exact⟨y,rfl,hc⟩
   |succ i=>obtain⟨c,p,q⟩:=f2 i (by simpa using hi);exact⟨c,by simpa using p,q⟩
  .cases e
def rQ{run:IT->Ag->Option IF}{a:Aa}{x:Int}{d:Nat}{C2:Aq}{k:Aq->IT}{res:IF}(fuel:Nat)(e:IT.step (BK cx) run (Gj 103 a fuel x d C2 k) h=some res):∃id,a= .ptr (some (id,0)):=by
 cases fuel with
 |zero=>simp[Gj,IT.step] at e
 |succ fuel=>
  simp only[Gj,IT.step,D4] at e;cases e0:lY h [a,.int .i64 x] with
  |none=>simp[e0] at e
  |some b=>
   unfold lY at e0;split at e0;.rename_i id x' Hy;cases Hy;exact⟨id,rfl⟩
   .cases e0
def YO{n:Nat}(hs:DO cx (IT.run (BK cx) n))(hi:Fg U h w0)(hg:∀g cs,cx.Fl g=some cs->Co U cs g 0){id g:Nat}(hm:U.mu id=some g):
  ∀(fuel:Nat) (x:Int) (d:Nat) (C2:Aq) (k:Aq->IT) (res:IF),d+fuel<=1000->IT.step (BK cx) (IT.run (BK cx) n) (Gj 103 (.ptr (some (id,0))) fuel x d C2 k) h=some res->
   ∃Oy,IT.step (BK cx) (IT.run (BK cx) n) (k Oy) h=some res/\oU g w0 x d C2 Oy/\∃p cap ln,w0.cell? ⟨g,0,none⟩=some (.slice p ln cap)/\1<=x/\x<=ln
 |0,x,d,C2,k,res,_,e=>by simp[Gj,IT.step] at e
 |fuel+1,x,d,C2,k,res,hd,e=>by
  simp only[Gj,IT.step,D4] at e;cases e0:lY h [.ptr (some (id,0)),.int .i64 x] with
  |none=>simp[e0] at e
  |some j=>
  obtain⟨h1,r⟩:=j;simp only[e0] at e;obtain⟨b,gn,off,m,cap,row,c,AP,rfl,lz,fy,hc,MU,wE,Qm,WU,hrow,gS,hk⟩:=rM hi hm e0;simp only[IT.step] at e;rw[b] at e;clear b;cases e1:IT.run (BK cx) n (BK cx 103 [.Cb row]) [] with
  |none=>simp[e1] at e
  |some R1=>
  simp only[e1] at e;split at e
  .rename_i l d_ Hy;cases Hy;split at e
   .split at e
    .rename_i s HB;split at e
     .rename_i hlen;have ih:∀(x:Int) (C2:Aq) (k:Aq->IT) (res:IF),IT.step (BK cx) (IT.run (BK cx) n) (Gj 103 (.ptr (some (id,0))) fuel x (d+1) C2 k) h=some res->∃Oy,IT.step (BK cx) (IT.run (BK cx) n) (k Oy) h=some res/\oU g w0 x (d+1) C2 Oy:=λx C2 k res e=>by obtain⟨Oy,p,q,_⟩:=YO hs hi hg hm fuel x (d+1) C2 k res Ab e;exact⟨Oy,p,q⟩
      have gT:∀W,Below w0.heap.size w0 W->Calls Proofs.Tryz.prog 103 #[.pointer (some ⟨gn,off+(x.toNat-1)*13,none⟩)] W λe W'=>e= .returned (.string ⟨⟨s⟩⟩)/\Below W.heap.size W W':=
       λW hb=>xX hs hi hg e1 hb hrow
      have II:∀a,((c=0/\a=C2++List.replicate (2*d) 32++s++[10])\/(c≠0/\oU g w0 c (d+1) (C2++List.replicate (2*d) 32++s++[10]) a))->
        IT.step (BK cx) (IT.run (BK cx) n) (AP.foldr (m_ fuel d (.ptr (some (id,0)))) k a) h=some res->∃Oy,IT.step (BK cx) (IT.run (BK cx) n) (k Oy) h=some res/\oU g w0 x d C2 Oy/\∃p cap ln,w0.cell? ⟨g,0,none⟩=some (.slice p ln cap)/\1<=x/\x<=ln:=by
       intro a gU i;obtain⟨f,f0,f1,f2⟩:=YN ih AP a k res i;exact⟨f AP.length,f1,mw lz fy hc MU wE Qm WU gS hk Ab gT hlen gU f f0 f2,_,_,_,hc,Qm,WU⟩
      split at e;.rename_i zh;exact II _ (.inl ⟨zh,rfl⟩) e
      .rename_i zh;obtain⟨a,p,q⟩:=ih _ _ _ _ e;exact II a (.inr ⟨zh,q⟩) p
     .cases e
    .cases e
   .cases e
  .cases e
end
def nc{w0:World}{g ln cap:Nat}{p:Option Addr}{x:Int}{s:Aq}(lz:g<w0.heap.size)(hc:w0.cell? ⟨g,0,none⟩=some (.slice p ln cap))(Qm:1<=x)(WU:x<=ln)(rP:oU g w0 x 0 [] s):
  Calls Proofs.Tryz.prog 22 #[.pointer (some ⟨g,0,none⟩),.int .i64 x] w0 λe w'=>e= .returned (.string ⟨⟨s⟩⟩)/\Below w0.heap.size w0 w':=by
 have a:decide (1<=x/\x<=ln)=true:=Bs ⟨Qm,WU⟩;have aAV:(w0.alloc (.cells #[.pointer none,.slice none 0 0] 124)).heap[w0.heap.size]?=some (.cells #[.pointer none,.slice none 0 0] 124 (0,0)):=World.alloc_heap_new w0 _;have MI:Below w0.heap.size w0 (w0.alloc (.cells #[.pointer none,.slice none 0 0] 124)):=(Below.refl _ w0).alloc (Af _) _;have l1:Lib.IsBuilder 124 5 w0.heap.size w0.heap.size (Lib.byteCells []) (w0.alloc (.cells #[.pointer none,.slice none 0 0] 124)):=
  .inl ⟨Af _,.slice none 0 0,aAV,World.ownsRow_nil _ _ _ _,by simp[Value.ownBlock]⟩
 have QZ:=rP w0.heap.size w0.heap.size _ (Af _) Au MI l1;rw[show((0:Nat):Int)=0 from rfl] at QZ;refine(callsIn_wide (n:=5)).1 ?_;refine callsIn_of_wp Proofs.Tryz.func22 rfl trivial ?_ rfl;simp only[Proofs.Tryz.ntmps22,Bl,AH,Bd,Nat.reduceAdd,Nat.reduceSub,Dp,Dq,Er,DF,Bj,BW];gi_wp2
 refine⟨trivial,(callsIn_wide.2 (Te g _ ln cap x _ hc)).mono ?_⟩;rintro e w' ⟨rfl,rfl⟩;rw[a];gi_wp2
 refine⟨trivial,(callsIn_wide.2 QZ).mono ?_⟩;rintro e W2 ⟨⟨v,rfl⟩,l2,b2⟩;gi_wp2
 refine⟨trivial,(callsIn_wide.2 (Proofs.Tryz.Builder_String_any w0.heap.size w0.heap.size s _ l2 (by have:=b2.size;have:=MI.size;omega))).mono ?_⟩;rintro e W3 ⟨rfl,b3⟩;gi_wp2
 refine bodyPost_ret (results_tmp rfl _ _ _) rfl ?_;exact⟨rfl,(MI.trans b2).trans b3⟩
def ng{h:Ag}(n:Nat)(hs:DO cx (IT.run (BK cx) n))(args:List Aa)(r:Aa)(h':Ag)(Ay:IT.step (BK cx) (IT.run (BK cx) n) (gN 103 args) h=some (.ret,[r],h')):
  (∃fn c,cx.P.funcs[DE 22]?=some fn/\(fn.name== "runtime.NumGoroutine")=false/\fn.body=some c)/\
  ∀(U:Gh) (w:World) (cargs:Array Value),Fg U h w->(∀g cs,cx.Fl g=some cs->Co U cs g 0)->AK U args cargs.toList->
   Calls cx.P (DE 22) cargs w λe w'=>match e with
    | .returned v=>∃d,Fg d h' w'/\IB U w d w'/\Bp d r v/\(cx.HP 22=true->∃s c,Hq d w.heap.size w' s c v r)
    |_=>False:=by
 refine⟨⟨_,_,Proofs.Tryz.func22,rfl,rfl⟩,λU w cargs hi hg ha=>?_⟩;have aAW:∃id x,args=[.ptr (some (id,0)),.int .i64 x]:=by
  unfold gN at Ay;split at Ay;.rename_i a x;obtain⟨id,rfl⟩:=rQ _ Ay;exact⟨id,x,rfl⟩
  .cases Ay
 obtain⟨id,x,rfl⟩:=aAW;obtain⟨v0,us,wC,⟨g,hm,rfl⟩,f,k_,rfl,rfl,hnil⟩:=ha;cases hnil;have b:cargs=#[.pointer (some ⟨g,0,none⟩),.int .i64 x]:=by apply Fe;simpa using wC
 subst b;simp only[gN] at Ay;obtain⟨C2,e1,rP,p,cap,ln,hc,Qm,WU⟩:=YO hs hi hg hm 100 x 0 [] _ _ Ab Ay;cases e1;refine(nc (Cr hc) hc Qm WU rP).mono λe w' he=>?_;obtain⟨rfl,hb⟩:=he;obtain⟨NR,KI⟩:=hi.GN hb;exact⟨U,NR,KI,rfl,λe=>by cases e⟩
end Go.Am
end
