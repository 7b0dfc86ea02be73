/- Lemmas -/
import Derived.Test.YtlcmmpgfafpoiaaGreatDoorT15
import Derived.RangeFuncBox
import Derived.OwnWalkIn
import Derived.TacticsInMore
import Derived.LoopNIn
import Derived.Sort.LoopGhostIn
set_option linter.all false
set_option maxHeartbeats 0
set_option maxRecDepth 100000
section
namespace Go.Am
open Go Go.RowKit Go.Shelf
def aR(ga:Nat)(p:Option Addr)(n cap:Nat)(x:Int)(w:World)(hc:w.cell? ⟨ga,0,none⟩=some (.slice p n cap)):
  Calls Proofs.Tryz.prog 54 #[.pointer (some ⟨ga,0,none⟩),.int .i64 x] w λe w'=>e= .returned (.bool (decide (1<=x/\x<=n)))/\w=w':=by
 go_enter Proofs.Tryz.func54,Proofs.Tryz.ntmps54
 go_wp2
 all_goals refine bodyPost_ret (results_tmp rfl _ _ _) rfl ?_
 all_goals simp_all
 all_goals omega
def aF4(ga gn off n cap:Nat)(x:Int)(w:World)(hc:w.cell? ⟨ga,0,none⟩=some (.slice (some ⟨gn,off,none⟩) n cap))(h1:1<=x)(h2:x<=n)(Pz:n<=cap)(hm:cap<=maxLen):
  Calls Proofs.Tryz.prog 153 #[.pointer (some ⟨ga,0,none⟩),.int .i64 x] w λe w'=>e= .returned (.pointer (some ⟨gn,off+(x.toNat-1)*13,none⟩))/\w=w':=by
 have hb:maxLen<=9223372036854775807:=AU;have hw:wrap64 (x-1)=x-1:=Go.IntWalk.wrap64_in _ ⟨Ab,Ab⟩;go_enter Proofs.Tryz.func153,Proofs.Tryz.ntmps153
 go_wp2
 all_goals refine bodyPost_ret (results_tmp rfl _ _ _) rfl ?_
 all_goals exact⟨rfl,rfl⟩
def aF5(ga:Nat)(x:Int)(w:World):
  Calls Proofs.Tryz.prog 362 #[.pointer (some ⟨ga,0,none⟩),.int .i64 x,.bool true] w λe w'=>e= .returned (.func (.func 415) #[] #[.pointer (some ⟨w.heap.size+1,0,none⟩),.pointer (some ⟨w.heap.size,0,none⟩),.pointer (some ⟨w.heap.size+1+1,0,none⟩)])/\
   w'=((w.alloc (.cells #[.pointer (some ⟨ga,0,none⟩)] 60)).alloc (.cells #[.int .i64 x] 3)).alloc (.cells #[.bool true] 4):=by
 have a:∀(fn:Fn) (first cap:Array Value) (w:World),(Instr.makeFunc fn first cap).run Proofs.Tryz.prog w= .ok (.func fn first cap) w:=λ_ _ _ _=>rfl;go_enter Proofs.Tryz.func362,Proofs.Tryz.ntmps362
 go_wp2
 go_ret
 exact⟨rfl,rfl⟩
def sJ{cs:List Aa}{off n:Nat}{up:Int}{k:Nat}{b:Bool}(h:LW cs off n up k 0=some b):b=false:=by cases k<;>simp[LW] at h<;>exact h
def sK{cs:List Aa}{off n:Nat}{up x:Int}{k:Nat}{b:Bool}(h:LW cs off n up k x=some b)(hx:x≠0):∃k',k=k'+1/\
  ((x=up/\b=true)\/(x≠up/\1<=x/\x<=n/\∃p q,GU cs off x 1=some p/\GU cs off x 12=some q/\LW cs off n up k' (if p=0 then q else p)=some b)):=by
 cases k with
 |zero=>
  rw[LW] at h;. cases h
  .exact λe=>hx e
 |succ k=>
  refine⟨k,rfl,?_⟩;rw[LW] at h
  .split at h;.rename_i e;cases h;exact .inl ⟨e,rfl⟩
   .rename_i e;split at h
    .rename_i hr;split at h;.rename_i p q c a;exact .inr ⟨e,hr.1,hr.2,p,q,c,a,h⟩
     .cases h
    .cases h
  .exact λe=>hx e
structure m9(Ba Bo ga gn off n cap:Nat)(cs:List Aa)(W:World):Prop where
 a:W.cell? ⟨Ba,0,none⟩=some (.pointer (some ⟨ga,0,none⟩))
 o:W.cell? ⟨Bo,0,none⟩=some (.bool true)
 c:W.cell? ⟨ga,0,none⟩=some (.slice (some ⟨gn,off,none⟩) n cap)
 x:∀(h:Int) (k:Nat) (v:Int),1<=h->h<=n->(k=1\/k=12)->GU cs off h k=some v->W.cell? ⟨gn,off+(h.toNat-1)*13+k,none⟩=some (.int .i64 v)
def m9.Og{Ba Bo ga gn off n cap:Nat}{cs:List Aa}{A B:World}(h:m9 Ba Bo ga gn off n cap cs A)(hk:∀b,b=Ba\/b=Bo\/b=ga\/b=gn->B.heap[b]?=A.heap[b]?):m9 Ba Bo ga gn off n cap cs B:=
 ⟨by rw[CV (hk _ AH)];exact h.a,by rw[CV (hk _ AH)];exact h.o,by rw[CV (hk _ AH)];exact h.c,
  λx k v h1 h2 e d=>by rw[CV (hk _ AH)];exact h.x x k v h1 h2 e d⟩
def xM{Ba Bo ga gn off n cap a:Nat}{cs:List Aa}{A:World}{u:Value}{J:World->Prop}(c:∀A B row,J A->A.grownBy B row->(∀r,row=some r->r=a)->J B)
  (hd:∀b,b=Ba\/b=Bo\/b=ga\/b=gn->b≠a) (hs:m9 Ba Bo ga gn off n cap cs A) (hc:A.cell? ⟨a,0,none⟩=some u) (hf:A.frozen? ⟨a,0,none⟩=false) (hj:J A) (v:Value):
  m9 Ba Bo ga gn off n cap cs (A.setCell ⟨a,0,none⟩ v)/\(A.setCell ⟨a,0,none⟩ v).cell? ⟨a,0,none⟩=some v/\(A.setCell ⟨a,0,none⟩ v).frozen? ⟨a,0,none⟩=false/\J (A.setCell ⟨a,0,none⟩ v):=
 ⟨hs.Og λb hb=>Below.heap_setCell _ _ _ b (hd b hb),World.cell?_setCell_same _ _ _ hc,by rw[World.frozen?_setCell];exact hf,c _ _ _ hj (grownBy_setCell' A a v) λr e=>by cases e;rfl⟩
def aF6(m l d Ba Bo n₁ ga gn off n cap:Nat)(cs:List Aa)(up:Int)(J F:World->Prop)
  (D:∀A B row,J A->A.grownBy B row->(∀r,row=some r->r=d)->J B)
  (M:∀x W,J W->YieldAt Fence.wide (m-1) Proofs.Tryz.prog l #[.int .i64 x] W λe W'=>(e= .returned (.bool true)/\J W'/\Below n₁ W W'/\x≠up)\/(e= .returned (.bool false)/\F W'/\x=up))
  (hd:∀b,b=Ba\/b=Bo\/b=ga\/b=gn->b<n₁/\b≠d) (j:d<n₁) (Pz:n<=cap) (hm:cap<=maxLen)
  (W:World) (s:Int) (hs:m9 Ba Bo ga gn off n cap cs W) (u:W.cell? ⟨d,0,none⟩=some (.int .i64 s)) (hf:W.frozen? ⟨d,0,none⟩=false)
  (fuel:Nat) (b:Bool) (hcl:LW cs off n up fuel s=some b) (h0:J W):
  CallsIn Fence.wide m Proofs.Tryz.prog 415 #[.func (.yield l) #[] #[],.pointer (some ⟨d,0,none⟩),.pointer (some ⟨Ba,0,none⟩),.pointer (some ⟨Bo,0,none⟩)] W λe W'=>(∃v,e= .returned v)/\((b=false/\J W')\/(b=true/\F W')):=by
 refine callsIn_of_wp Proofs.Tryz.func415 rfl trivial ?_ rfl;simp only[Proofs.Tryz.ntmps415,B8,Bf,BT,Nat.reduceAdd,Nat.reduceSub,KA,KB,MN,K8,BU,CO];gi_wp2
 gi_loopg [] fuel (λk wr=>∃x,LW cs off n up k x=some b/\m9 Ba Bo ga gn off n cap cs wr/\wr.cell? ⟨d,0,none⟩=some (.int .i64 x)/\wr.frozen? ⟨d,0,none⟩=false/\J wr)
 case atStart=>exact⟨s,hcl,hs,u,hf,h0⟩
 case round=>
  obtain⟨x,hcl,hs,u,hf,hj⟩:=hrel;by_cases hx:x=0
  .subst hx;have:=sJ hcl;subst this;gi_wp2
   refine⟨nofun,?_⟩;gi_wp2
   go_end0
   exact⟨⟨_,rfl⟩,hj⟩
  .obtain⟨k',rfl,Je⟩:=sK hcl hx;have hne:(x != 0)=true:=by simp[hx]
   obtain⟨fn,tmps,assign,body,hy,hR⟩:=M x wr hj;gi_wp2
   refine⟨nofun,?_⟩;refine hR.mono ?_;rintro e W3 (⟨rfl,y,qL,g⟩|⟨rfl,i,g⟩)
   .rcases Je with⟨rfl,_⟩|⟨_,h1,h2,p,q,O,N,aCu⟩
    .exact absurd rfl g
    have f:=hs.Og λb hb=>qL.block b (hd b hb).1;have t:W3.cell? ⟨d,0,none⟩=some (.int .i64 x):=by rw[CV (qL.block d j)];exact u
    have w:W3.frozen? ⟨d,0,none⟩=false:=by rw[<-hf];simp only[World.frozen?,qL.block d j]
    have hp:=f.x x 1 p h1 h2 (.inl rfl) O;have hq:=f.x x 12 q h1 h2 (.inr rfl) N;have Q:=f.a;have P:=f.o;have I:¬Bo=d:=(hd Bo AH).2;have H:¬gn=d:=(hd gn AH).2;gi_wp2
    refine⟨trivial,nofun,(callsIn_wide.2 (aF4 ga gn off n cap x _ f.c h1 h2 Pz hm)).mono ?_⟩;rintro e w' ⟨rfl,rfl⟩;obtain⟨z,E,z4,C⟩:=xM D (λb hb=>(hd b hb).2) f t w y (.int .i64 p);by_cases h:p=0
    .subst h;obtain⟨G,R,z5,K⟩:=xM D (λb hb=>(hd b hb).2) z E z4 C (.int .i64 q);gi_wp2
     gi_roundg k'
     case measure=>omega
     case rel=>exact⟨q,aCu,G,R,z5,K⟩
    .have L:(p==0)=false:=by simp[h]
     gi_wp2
     gi_roundg k'
     case measure=>omega
     case rel=>exact⟨p,by rw[Ad h] at aCu;exact aCu,z,E,z4,C⟩
   .rcases Je with⟨_,rfl⟩|⟨aLe,_⟩
    .gi_wp2
     go_end0
     exact⟨⟨_,rfl⟩,i⟩
    .exact absurd g aLe
def aCw(n₁:Nat)(up:Int)(I a:World->Prop)(x:Int)(W:World):Exit->Act->World->Prop
 | .normal,_,W'=>KeepsOthers W W'/\Below n₁ W W'/\I W'/\x≠up
 | .ret,_,W'=>KeepsOthers W W'/\a W'/\x=up
 | .exit _,_,_=>False
 | .goto _,_,_=>False
 | .panic _,_,_=>False
 | .outgrown,_,_=>False
def dX{P:Program}{n gf:Nat}{lb:Array Value}{g:Operand}{ps:Array Tmp}{assign body:Code}{Q:Exit->Act->World->Prop}{a:Act}{w:World}(h:Nat)(b:Bool)(up:Int)
  (hg:a.eval g= .func (.func gf) #[] lb) (u:∀args w,(callFunc gf args).run P w= .ok (.enter gf args) w) (s:h<w.heap.size)
  (aCx:∀(l:Nat) (J o:World->Prop) (W:World),Below w.heap.size w W->(∀A B row,J A->A.grownBy B row->(∀r,row=some r->r=h)->J B)->
   (∀x W1,J W1->YieldAt Fence.wide (n-1 -1) P l #[.int .i64 x] W1 λe W'=>(e= .returned (.bool true)/\J W'/\Below w.heap.size W1 W'/\x≠up)\/(e= .returned (.bool false)/\o W'/\x=up))->J W->
   CallsIn Fence.wide (n-1) P gf (#[.func (.yield l) #[] #[]]++lb) W λe W'=>(∃v,e= .returned v)/\((b=false/\J W')\/(b=true/\o W')))
  (Ð:ps.size=1) (I f:World->Prop) (hI:∀A B row,I A->A.grownBy B row->(∀r,row=some r->r=h\/w.heap.size<=r)->I B)
  (hIx:∀A B row,f A->A.grownBy B row->(∀r,row=some r->r=h\/w.heap.size<=r)->f B) (h0:I w) (a₁:Int->Act)
  (hassign:∀(l:Nat) (x:Int) (W:World) (K:Act->World->Prop),K (a₁ x) W->
   assign.wpIn (Fence.wide.inRound l) (n-1 -1) P (Exit.then K (λ_ _ _=>False)) {tmps:=(ps.zip #[.int .i64 x]).foldl (λt (p,v)=>t.setIfInBounds p v) a.tmps,defers:=[]} W)
  (XD:∀(l:Nat) (x:Int) (W:World),I W->body.wpIn (Fence.wide.inRound l) (n-1 -1) P (aCw w.heap.size up I f x W) (a₁ x) W)
  (tk:∀(D:Nat) (W:World),b=false->I W->W.heap[D]?=some (.deferred (some []))->w.heap.size<=D->Q .normal {a with defers:={target:= .collected D,args:=#[]}::a.defers} W)
  (tl:∀(D:Nat) (W:World),b=true->f W->W.heap[D]?=some (.deferred (some []))->w.heap.size<=D->Code.ret.wpIn Fence.wide n P Q {a with defers:={target:= .collected D,args:=#[]}::a.defers} W):
  (Code.rangeFunc g ps assign body).wpIn Fence.wide n P Q a w:=by
 refine wpIn_rangeFunc ?_;intro fn Ë;have hro:Fence.wide.round=none:=rfl;rw[hro];obtain⟨rec,VC⟩:∃rec:LoopState->Option Code->Loop,rec=λst q=>{state:=st,pending:=q,fn,tmps:=a.tmps,params:=ps,assign,body,defers:=w.heap.size}:=⟨_,rfl⟩;obtain⟨W1,c⟩:∃W1,(w.alloc (.deferred (some []))).alloc (.loop (rec .ready none))=W1:=⟨_,rfl⟩;have i:W1.heap[w.heap.size+1]?=some (.loop (rec .ready none)):=by rw[<-c];have:=World.alloc_heap_new (w.alloc (.deferred (some []))) (.loop (rec .ready none));rwa [World.size_alloc] at this
 have j:W1.heap[w.heap.size]?=some (.deferred (some [])):=by rw[<-c];exact(Below.heap_alloc _ _ _ AH).trans (World.alloc_heap_new w _)
 have k:I W1:=by rw[<-c];exact hI _ _ none (hI _ _ none h0 (World.grownBy_alloc _ _ none) nofun) (World.grownBy_alloc _ _ none) nofun
 have Tw:Below w.heap.size w W1:=by rw[<-c];exact(((Below.refl _ w).alloc (Ag _) _).alloc AH _)
 refine⟨w.heap.size+1,[{target:= .collected w.heap.size,args:=#[]}],W1,{target:= .fn (.func gf) lb,args:=#[.func (.yield (w.heap.size+1)) #[] #[]]},W1,gf,
  #[.func (.yield (w.heap.size+1)) #[] #[]]++lb,W1,?_,?_,?_,?_,nofun,?_⟩
 .rw[<-c,VC];exact run_enterLoop_outer _ _ _ _ _
 .simp only[resolve,hg];simp[go_sem]
 .intro f' sg;trivial
 .simp[invoke,go_sem,u]
 .refine(aCx (w.heap.size+1)
   (λW=>I W/\W.heap[w.heap.size+1]?=some (.loop (rec .ready none))/\W.heap[w.heap.size]?=some (.deferred (some [])))
   (λW=>f W/\W.heap[w.heap.size+1]?=some (.loop (rec .done (some .ret)))/\W.heap[w.heap.size]?=some (.deferred (some [])))
   W1 Tw
   (λA B row hs hg' hr=>⟨hI A B row hs.1 hg' (λr e=> .inl (hr r e)),(hg'.block _ (A8.1 hs.2.1).1 (λe=>by have:=hr _ e.symm;omega)).trans hs.2.1,
    (hg'.block _ (A8.1 hs.2.2).1 (λe=>by have:=hr _ e.symm;omega)).trans hs.2.2⟩)
   ?_ ⟨k,i,j⟩).mono ?_
  .rintro x W ⟨hi,hl,hk⟩;have hlt:w.heap.size+1<W.heap.size:=(A8.1 hl).1;have hy:=run_yield (P:=P) (args:=#[.int .i64 x]) hl (by rw[VC];exact Ð.symm);rw[VC] at hy;refine⟨fn,_,assign,body,hy,roundIn_of_wpIn Ë (hassign _ x W _ ⟨_,run_beginRound hl (by rw[VC]),?_⟩)⟩;have aQ:(W.putObj (w.heap.size+1) (.loop {rec .ready none with state:= .busy})).heap[w.heap.size+1]?=some (.loop {rec .ready none with state:= .busy}):=World.putObj_heap_same hlt;have Zl:(W.putObj (w.heap.size+1) (.loop {rec .ready none with state:= .busy})).heap[w.heap.size]?=some (.deferred (some [])):=(World.putObj_heap_other Ab).trans hk;have r_:Below w.heap.size W (W.putObj (w.heap.size+1) (.loop {rec .ready none with state:= .busy})):=belowK_b (Ag _) W _ _ _ Ab hl rfl rfl;refine wpIn_mono (XD _ x _ (hI _ _ _ hi (grownBy_putObj' W _ _) (λr e=> .inr (by cases e;omega)))) ?_;have HG:∀(jump:Option Code) (W3:World),KeepsOthers (W.putObj (w.heap.size+1) (.loop {rec .ready none with state:= .busy})) W3->
     (Instr.endRound (w.heap.size+1) jump).run P W3= .ok (.bool jump.isNone) (W3.putObj (w.heap.size+1) (.loop (rec (if jump.isNone then .ready else .done) jump)))/\
     W3.heap[w.heap.size+1]?=some (.loop {rec .ready none with state:= .busy})/\
     (W3.putObj (w.heap.size+1) (.loop (rec (if jump.isNone then .ready else .done) jump))).heap[w.heap.size+1]?=some (.loop (rec (if jump.isNone then .ready else .done) jump))/\
     (W3.putObj (w.heap.size+1) (.loop (rec (if jump.isNone then .ready else .done) jump))).heap[w.heap.size]?=some (.deferred (some [])):=λjump W3 qL=>by
    have lM:=qL.same _ _ aQ rfl;have:=run_endRound (P:=P) jump lM;rw[VC] at this⊢;exact⟨this,by rw[VC] at lM;exact lM,World.putObj_heap_same (A8.1 lM).1,(World.putObj_heap_other Ab).trans (qL.same _ _ Zl rfl)⟩
   rintro e a3 W3 hp;cases e with
   |normal=>obtain⟨qL,aLg,ß,hne⟩:=hp;obtain⟨hr,lM,d,å⟩:=HG none W3 qL;exact⟨_,_,hr,.inl ⟨rfl,⟨hI _ _ _ ß (grownBy_putObj' W3 _ _) (λr e=> .inr (by cases e;omega)),d,å⟩,(r_.trans aLg).trans (belowK_b (Ag _) W3 _ _ _ Ab lM rfl rfl),hne⟩⟩
   |ret=>obtain⟨qL,ß,he⟩:=hp;obtain⟨hr,lM,d,å⟩:=HG (some .ret) W3 qL;exact⟨_,_,hr,.inr ⟨rfl,⟨hIx _ _ _ ß (grownBy_putObj' W3 _ _) (λr e=> .inr (by cases e;omega)),d,å⟩,he⟩⟩
   |exit id=>exact hp.elim
   |goto t=>exact hp.elim
   |panic y=>exact hp.elim
   |outgrown=>exact hp.elim
  .rintro e m ⟨⟨v,rfl⟩,⟨hb,hi,hl,hk⟩|⟨hb,hi,hl,hk⟩⟩;.exact⟨none,_,by have:=run_endLoop (P:=P) hl (by rw[VC];simp);rw[VC] at this;exact this,tk _ _ hb (hI _ _ _ hi (grownBy_putObj' m _ _) (λr e=> .inr (by cases e;omega))) ((World.putObj_heap_other Ab).trans hk) (Ag _)⟩
   .exact⟨some .ret,_,by have:=run_endLoop (P:=P) hl (by rw[VC];simp);rw[VC] at this;exact this,tl _ _ hb (hIx _ _ _ hi (grownBy_putObj' m _ _) (λr e=> .inr (by cases e;omega))) ((World.putObj_heap_other Ab).trans hk) (Ag _)⟩
def CY{W:World}{k j:Nat}{v:Value}(o:Obj)(h:W.cell? ⟨k,j,none⟩=some v):(W.alloc o).cell? ⟨k,j,none⟩=some v:=by rw[World.cell?_alloc_past _ _ _ (DT h)];exact h
def Lh{W:World}{k j:Nat}{v:Value}(o:Obj)(h:W.cell? ⟨k,j,none⟩=some v):(W.alloc o).frozen? ⟨k,j,none⟩=W.frozen? ⟨k,j,none⟩:=
 World.frozen?_alloc_past _ _ _ (DT h)
def Me(W:World)(v:Value)(t:TypeId):(W.alloc (.cells #[v] t)).cell? ⟨W.heap.size,0,none⟩=some v/\(W.alloc (.cells #[v] t)).frozen? ⟨W.heap.size,0,none⟩=false:=by
 have h:(W.alloc (.cells #[v] t)).heap[W.heap.size]?=some (.cells #[v] t (0,0)):=World.alloc_heap_new W _;constructor;.simp only[World.cell?,h];rfl
 .simp only[World.frozen?,h];rfl
def XI{A B:World}{row:Option Nat}{k:Nat}{v:Value}(h:A.cell? ⟨k,0,none⟩=some v)(hg:A.grownBy B row)(hr:∀r,row=some r->k≠r):
  B.cell? ⟨k,0,none⟩=some v/\B.frozen? ⟨k,0,none⟩=A.frozen? ⟨k,0,none⟩:=by
 have hb:B.heap[k]?=A.heap[k]?:=hg.block k (DT h) (λe=>hr k e.symm rfl);exact⟨by rw[CV hb];exact h,by simp only[World.frozen?,hb]⟩
def aCy(ga gn off n cap:Nat)(cs:List Aa)(up x:Int)(w:World)(o:ga<w.heap.size)(E:gn<w.heap.size)(Pz:n<=cap)(hm:cap<=maxLen)
  (hc:w.cell? ⟨ga,0,none⟩=some (.slice (some ⟨gn,off,none⟩) n cap))
  (hx:∀(h:Int) (k:Nat) (v:Int),1<=h->h<=n->(k=1\/k=12)->GU cs off h k=some v->w.cell? ⟨gn,off+(h.toNat-1)*13+k,none⟩=some (.int .i64 v))
  (b:Bool) (hcl:LW cs off n up (n+1) x=some b) (O7:1<=up) (IE:up<=n) (Pb:1<=x) (dY:x<=n):
  Calls Proofs.Tryz.prog 237 #[.pointer (some ⟨ga,0,none⟩),.int .i64 up,.int .i64 x] w λe w'=>e= .returned (.bool b)/\Below w.heap.size w w':=by
 refine(callsIn_wide (n:=5)).1 ?_;refine callsIn_of_wp_marks Proofs.Tryz.func237 rfl trivial ?_;simp only[Proofs.Tryz.ntmps237,B8,Bf,BT,Nat.reduceAdd,Nat.reduceSub,KA,KB,MN,K8,BU,CO];have s:((w.alloc (.cells #[.int .i64 up] 3)).alloc (.cells #[.bool false] 4)).cell? ⟨ga,0,none⟩=some (.slice (some ⟨gn,off,none⟩) n cap):=by rw[World.cell?_alloc_past _ _ _ D9,World.cell?_alloc_past _ _ _ o];exact hc
 have z:=Me w (.int .i64 up) 3;have d:=Me (w.alloc (.cells #[.int .i64 up] 3)) (.bool false) 4;have u:=Me ((w.alloc (.cells #[.int .i64 up] 3)).alloc (.cells #[.bool false] 4)) (.pointer (some ⟨ga,0,none⟩)) 60;have i:=Me (((w.alloc (.cells #[.int .i64 up] 3)).alloc (.cells #[.bool false] 4)).alloc (.cells #[.pointer (some ⟨ga,0,none⟩)] 60)) (.int .i64 x) 3;have t:=Me ((((w.alloc (.cells #[.int .i64 up] 3)).alloc (.cells #[.bool false] 4)).alloc (.cells #[.pointer (some ⟨ga,0,none⟩)] 60)).alloc (.cells #[.int .i64 x] 3)) (.bool true) 4;simp only[World.size_alloc] at d u i t;have I:decide (1<=up/\up<=n)=true:=As ⟨O7,IE⟩;have H:decide (1<=x/\x<=n)=true:=As ⟨Pb,dY⟩;gi_wp2
 refine⟨trivial,(callsIn_wide.2 (aR ga _ n cap up _ s)).mono ?_⟩;rintro e w' ⟨rfl,rfl⟩;rw[I];gi_wp2
 refine⟨trivial,(callsIn_wide.2 (aR ga _ n cap x _ s)).mono ?_⟩;rintro e w' ⟨rfl,rfl⟩;rw[H];gi_wp2
 refine⟨trivial,(callsIn_wide.2 (aF5 ga x _)).mono ?_⟩;rintro e w' ⟨rfl,rfl⟩;gi_wp2
 refine dX (gf:=415) (lb:=#[.pointer (some ⟨w.heap.size+1+1+1,0,none⟩),.pointer (some ⟨w.heap.size+1+1,0,none⟩),.pointer (some ⟨w.heap.size+1+1+1+1,0,none⟩)]) (w.heap.size+1+1+1) b up rfl (Go.Proofs.enters_of Proofs.Tryz.func415 Dg rfl) AH
  ?aCx rfl
  (λW=>Below w.heap.size w W/\W.cell? ⟨w.heap.size,0,none⟩=some (.int .i64 up)/\W.cell? ⟨w.heap.size+1,0,none⟩=some (.bool false)/\W.frozen? ⟨w.heap.size+1,0,none⟩=false)
  (λW=>Below w.heap.size w W/\W.cell? ⟨w.heap.size+1,0,none⟩=some (.bool true)) ?hI ?hIx ?h0
  (λy=>{tmps:=#[.pointer (some ⟨ga,0,none⟩),.int .i64 up,.int .i64 x,undef,.pointer (some ⟨w.heap.size,0,none⟩),undef,.pointer (some ⟨w.heap.size+1,0,none⟩),.int .i64 y,.pointer (some ⟨ga,0,none⟩),.int .i64 up,.bool true,.bool false,.bool false,.pointer (some ⟨ga,0,none⟩),.int .i64 x,.bool true,.bool false,.bool false,.pointer (some ⟨ga,0,none⟩),.int .i64 x,.func (.func 415) #[] #[.pointer (some ⟨w.heap.size+1+1+1,0,none⟩),.pointer (some ⟨w.heap.size+1+1,0,none⟩),.pointer (some ⟨w.heap.size+1+1+1+1,0,none⟩)],.int .i64 y,undef,undef,undef],defers:=[]})
  ?hassign ?XD ?tk ?tl
 case hI=>rintro A B row ⟨h1,h2,c,q⟩ hg hr;have J1:=DT c;have C:=XI h2 hg (λr e=>by rcases hr r e with rfl|h<;>simp at* <;>omega);have m:=XI c hg (λr e=>by rcases hr r e with rfl|h<;>simp at* <;>omega);exact⟨h1.grown hg Ab (λk e=>by rcases hr k e with rfl|h<;>simp at* <;>omega),C.1,m.1,m.2.trans q⟩
 case hIx=>rintro A B row ⟨h1,c⟩ hg hr;have J1:=DT c;have m:=XI c hg (λr e=>by rcases hr r e with rfl|h<;>simp at* <;>omega);exact⟨h1.grown hg Ab (λk e=>by rcases hr k e with rfl|h<;>simp at* <;>omega),m.1⟩
 case h0=>
  refine⟨(((((Below.refl _ w).alloc (Ag _) _).alloc AH _).alloc D9 _).alloc D9 _).alloc D9 _,?_,?_,?_⟩;.exact CY _ (CY _ (CY _ (CY _ z.1)))
  .exact CY _ (CY _ (CY _ d.1))
  .rw[Lh _ (CY _ (CY _ d.1)),Lh _ (CY _ d.1),Lh _ d.1];exact d.2
 case aCx=>
  intro l J L W hW G F hj;have kk:∀{k j:Nat} {v:Value},(((((w.alloc (.cells #[.int .i64 up] 3)).alloc (.cells #[.bool false] 4)).alloc (.cells #[.pointer (some ⟨ga,0,none⟩)] 60)).alloc (.cells #[.int .i64 x] 3)).alloc (.cells #[.bool true] 4)).cell? ⟨k,j,none⟩=some v->W.cell? ⟨k,j,none⟩=some v:=
   λ{k j v} h=>by rw[CV (hW.block k (DT h))];exact h
  have hs:m9 (w.heap.size+1+1) (w.heap.size+1+1+1+1) ga gn off n cap cs W:=
   ⟨kk (CY _ (CY _ u.1)),kk t.1,kk (CY _ (CY _ (CY _ s))),λh k v h1 h2 c q=>kk (CY _ (CY _ (CY _ (CY _ (CY _ (hx h k v h1 h2 c q))))))⟩
  refine aF6 4 l (w.heap.size+1+1+1) (w.heap.size+1+1) (w.heap.size+1+1+1+1) _ ga gn off n cap cs up J L G F ?_ AH Pz hm W x hs (kk (CY _ i.1)) ?_ (n+1) b hcl hj;.rintro b (rfl|rfl|rfl|rfl)<;>simp<;>omega
  .have:W.frozen? ⟨w.heap.size+1+1+1,0,none⟩=_:=World.frozen?_of_block (hW.block (w.heap.size+1+1+1) AH);rw[this,Lh _ i.1];exact i.2
 case hassign=>
  intro l y W K f;have aLi:=Oper.semAt_some l;gi_wp2
  exact f
 case XD=>
  rintro l y W ⟨hb,RS,IZ,mw⟩;have aLi:=Oper.semAt_some l;gi_wp2
  .rename_i he;obtain rfl:y=up:=eq_of_beq he;exact⟨KeepsOthers.setCell _ _ _,⟨hb.setCell (Fj _) _,World.cell?_setCell_same _ _ _ IZ⟩,rfl⟩
  .rename_i he;exact⟨KeepsOthers.refl _,Below.refl _ _,⟨hb,RS,IZ,mw⟩,λe=>by subst e;simp at he⟩
 case tk=>
  rintro D W rfl ⟨hb,RS,IZ,mw⟩ f p;gi_wp2
  have g:=(KeepsOthers.setCell W ⟨w.heap.size+1,0,none⟩ (.bool false)).same D _ f rfl;have a:=cell_kept (World.cell?_setCell_same W ⟨w.heap.size+1,0,none⟩ (.bool false) IZ) (grownBy_putObj' _ D (.deferred none)) (λr e=>by cases e;exact⟨_,g,rfl⟩);refine⟨AH,.inl ⟨_,_,rfl,run_takeDeferred g,?_⟩⟩;refine⟨.bool false,?_,rfl,(hb.setCell (Fj _) _).grown (grownBy_putObj' _ D _) (by have:=DT IZ;simp;omega) (λk e=>by cases e;simp at p;omega)⟩;simp[results,Proofs.Tryz.f237,go_sem,a]
 case tl=>
  rintro D W rfl ⟨hb,IZ⟩ f p;gi_wp2
  have a:=cell_kept IZ (grownBy_putObj' _ D (.deferred none)) (λr e=>by cases e;exact⟨_,f,rfl⟩);refine⟨AH,.inl ⟨_,_,rfl,run_takeDeferred f,?_⟩⟩;refine⟨.bool true,?_,rfl,hb.grown (grownBy_putObj' _ D _) (by have:=DT IZ;omega) (λk e=>by cases e;simp at p;omega)⟩;simp[results,Proofs.Tryz.f237,go_sem,a]
def XJ(ga:Nat)(p:Option Addr)(n cap:Nat)(up x:Int)(w:World)(hc:w.cell? ⟨ga,0,none⟩=some (.slice p n cap))(ho:¬(1<=up/\up<=n/\1<=x/\x<=n)):
  Calls Proofs.Tryz.prog 237 #[.pointer (some ⟨ga,0,none⟩),.int .i64 up,.int .i64 x] w λe w'=>e= .returned (.bool false)/\Below w.heap.size w w':=by
 have c:((w.alloc (.cells #[.int .i64 up] 3)).alloc (.cells #[.bool false] 4)).cell? ⟨ga,0,none⟩=some (.slice p n cap):=CY _ (CY _ hc);have a:=Me (w.alloc (.cells #[.int .i64 up] 3)) (.bool false) 4;simp only[World.size_alloc] at a;have hb:Below w.heap.size w ((w.alloc (.cells #[.int .i64 up] 3)).alloc (.cells #[.bool false] 4)):=((Below.refl _ w).alloc (Ag _) _).alloc AH _;refine(callsIn_wide (n:=5)).1 ?_;refine callsIn_of_wp Proofs.Tryz.func237 rfl trivial ?_ rfl;simp only[Proofs.Tryz.ntmps237,B8,Bf,BT,Nat.reduceAdd,Nat.reduceSub,KA,KB,MN,K8,BU,CO];by_cases h1:1<=up/\up<=n
 .have b:decide (1<=up/\up<=n)=true:=As h1;have d:decide (1<=x/\x<=n)=false:=Aq λh2=>ho ⟨h1.1,h1.2,h2.1,h2.2⟩;gi_wp2
  refine⟨trivial,(callsIn_wide.2 (aR ga _ n cap up _ c)).mono ?_⟩;rintro e w' ⟨rfl,rfl⟩;rw[b];gi_wp2
  refine⟨trivial,(callsIn_wide.2 (aR ga _ n cap x _ c)).mono ?_⟩;rintro e w' ⟨rfl,rfl⟩;rw[d];gi_wp2
  refine bodyPost_ret (v:= .bool false) ?_ rfl ⟨rfl,hb⟩;simp[results,Proofs.Tryz.f237,go_sem,a.1]
 .have b:decide (1<=up/\up<=n)=false:=Aq h1;gi_wp2
  refine⟨trivial,(callsIn_wide.2 (aR ga _ n cap up _ c)).mono ?_⟩;rintro e w' ⟨rfl,rfl⟩;rw[b];gi_wp2
  refine⟨trivial,?_⟩;gi_wp2
  refine bodyPost_ret (v:= .bool false) ?_ rfl ⟨rfl,hb⟩;simp[results,Proofs.Tryz.f237,go_sem,a.1]
section
variable{h:Ah}
def dZ{cs:List Aa}{off:Nat}{x:Int}{k:Nat}{v:Int}(e:GU cs off x k=some v):cs[off+(x.toNat-1)*13+k]?=some (.int .i64 v):=by
 unfold GU at e;split at e;.rename_i a;cases e;exact a
 .cases e
def æ(n:Nat)(args:List Aa)(r:Aa)(h':Ah)(A4:IT.step (B9 cx) (IT.run (B9 cx) n) (NJ args) h=some (.ret,[r],h')):
  (∃fn c,cx.P.funcs[EF 237]?=some fn/\(fn.name== "runtime.NumGoroutine")=false/\fn.body=some c)/\
  ∀(U:Gh) (w:World) (cargs:Array Value),Hn U h w->(∀g cs,cx.Hb g=some cs->C6 U cs g 0)->Bj U args cargs.toList->
   Calls cx.P (EF 237) cargs w λe w'=>match e with
    | .returned v=>∃d,Hn d h' w'/\Lq U w d w'/\BR d r v/\(cx.Jk 237=true->∃s c,IY d w.heap.size w' s c v r)
    |_=>False:=by
 refine⟨⟨_,_,Proofs.Tryz.func237,rfl,rfl⟩,λU w cargs hi hg ha=>?_⟩;simp only[NJ,IT.step,E7] at A4;cases e0:NI h args with
 |none=>simp[e0] at A4
 |some H=>
 obtain⟨h1,J⟩:=H;simp only[e0] at A4;cases A4;have HG:∀(b:Bool) (cs:Array Value),h'=h->r= .bool b->Calls Proofs.Tryz.prog 237 cs w (λe w'=>e= .returned (.bool b)/\Below w.heap.size w w')->
   Calls cx.P (EF 237) cs w λe w'=>match e with
    | .returned v=>∃d,Hn d h' w'/\Lq U w d w'/\BR d r v/\(cx.Jk 237=true->∃s c,IY d w.heap.size w' s c v r)
    |_=>False:=by
  rintro b cs rfl rfl hc;refine hc.mono λe w' he=>?_;obtain⟨rfl,hb⟩:=he;obtain⟨V0,O8⟩:=hi.Lu hb;exact⟨U,V0,O8,rfl,λe=>by cases e⟩
 unfold NI at e0;split at e0
 .rename_i id up x;obtain⟨v0,us,o,⟨g,hm,rfl⟩,I,q,rfl,rfl,v2,qX,rfl,rfl,hnil⟩:=ha;cases hnil;have a:cargs=#[.pointer (some ⟨g,0,none⟩),.int .i64 up,.int .i64 x]:=by apply HD;simpa using o
  subst a;split at e0;.rename_i l hc;cases e0;obtain⟨_,y,hy,A⟩:=hi.Sy hc hm (j:=0) rfl;cases A;exact HG false _ rfl rfl (XJ g none 0 0 up x w hy Ab)
  .rename_i F off len l hc;split at e0
   .rename_i cs hcs;split at e0
    .rename_i hl;obtain⟨_,y,hy,gn,cap,f,rfl,D,⟨K,C⟩,B⟩:=hi.Sy hc hm (j:=0) rfl;have m:g<w.heap.size:=DT hy;have i:gn<w.heap.size:=by obtain⟨⟨us,e,fr,E,L⟩,_⟩:=hi.sz gn _ B;exact(A8.1 E).1
     split at e0
     .rename_i hr;cases p:LW cs off len up (len+1) x with
      |none=>simp[p] at e0
      |some b=>simp only[p,B5,BD,Io] at e0;obtain⟨rfl,rfl⟩:=e0;refine HG b _ rfl rfl (aCy g gn off len cap cs up x w m i D C hy (λt k v h1 h2 M G=>?_) b p hr.1 hr.2.1 hr.2.2.1 hr.2.2.2);obtain⟨_,z,hz,u⟩:=hi.Sy hcs f (dZ G);cases u;exact hz
     .rename_i hr;cases e0;exact HG false _ rfl rfl (XJ g _ len cap up x w hy hr)
    .cases e0
   .cases e0
  .cases e0
 .cases e0
end
def OY{T e:TypeId}{B b:Nat}{bs:List Value}{W W':World}(h:Lib.IsBuilder T e B b bs W)(hb:Below W.heap.size W W'):Lib.IsBuilder T e B b bs W':=by
 have key:∀p,Lib.BuilderAt T e B b p bs W->Lib.BuilderAt T e B b p bs W':=λp ⟨hB,v,Â,FI,hne⟩=>by refine⟨hB,v,(hb.block b (A8.1 Â).1).trans Â,?_,hne⟩;exact FI.kept (row:=none) ⟨hb.os,hb.tape,hb.output,hb.size,λk hk _=>hb.block k hk⟩ (Classical.em _)
 exact h.imp (key _) (key _)
def KV(a b:List UInt8):Lib.byteCells (a++b)=Lib.byteCells a++Lib.byteCells b:=by simp[Lib.byteCells]
def byteCells_length(a:List UInt8):(Lib.byteCells a).length=a.length:=by simp[Lib.byteCells]
def sL(d:Nat):Lib.repeatL [32,32] d=List.replicate (2*d) 32:=by
 induction d with
 |zero=>rfl
 |succ d ih=>rw[Lib.repeatL,ih,(Ab:2*(d+1)=2*d+1+1),K6,K6];rfl
def sM:∀a:Aa,a.MQ=true->a.still=true
 | .bool _,_=>rfl
 | .int _ _,_=>rfl
 | .str _,_=>rfl
 |a,h=>by cases a<;>first|rfl|simp[Aa.MQ] at h
def UP:∀l:List Aa,l.all Aa.MQ=true->JP l=true
 |[],_=>rfl
 |a::l,h=>by simp only[cN,Bv] at h;simp only[JP,Bv];exact⟨sM a h.1,UP l h.2⟩
section
variable{U:Gh}{h:Ah}{w:World}
def nA(hi:Hn U h w){id g:Nat}{cs:List Aa}(hc:h[id]?=some (.cells cs))(hm:U.mu id=some g):∀(n o:Nat),o+n<=cs.length->M3 (Cw cs 1 o n)=true->
  (Cw cs 1 o n).length=n/\E9 (Gy w) (Cw cs 1 o n) 1 g o
 |0,o,_,_=>⟨rfl,trivial⟩
 |n+1,o,hl,hs=>by
  have hlt:o<cs.length:=Ab;have a:(cs.drop o).take 1=[cs[o]]:=by rw[AG hlt];rfl
  have VW:JP ((cs.drop o).take 1)=true/\M3 (Cw cs 1 (o+1) n)=true:=by simpa only[Cw,M3,Bv] using hs
  obtain⟨p,q⟩:=nA hi hc hm n (o+1) Ab VW.2;rw[a] at VW;have HT:cs[o].still=true:=by simpa[JP] using VW.1
  obtain⟨u,hu,h1,hr⟩:=NM hi hc hm (Ak hlt);refine⟨by simp[Cw,p],?_⟩;simp only[Cw,a];exact⟨rfl,⟨⟨u,TN hu h1,BR.mem hi _ _ HT hr⟩,trivial⟩,q⟩
def eB(w:World)(b o:Nat)(Bb:List (List Aa)):Prop:=
 ∃v,w.cell? ⟨b,o,none⟩=some v/\((v= .slice none 0 0/\Bb=[])\/
  (∃a c cap,v= .slice (some ⟨a,c,none⟩) Bb.length cap/\Bb.length<=cap/\cap<=maxLen/\a<w.heap.size/\E9 (Gy w) Bb 1 a c))
def tn(hi:Hn U h w){id g:Nat}(hm:U.mu id=some g){x:Int}{h1:Ah}{r:Aa}(e:h_ h [.ptr (some (id,0)),.int .i64 x]=some (h1,r)):
  h1=h/\∃gn off n cap row c Bb,r= .tuple [.CJ row,.int .i64 c,.sl 1 Bb]/\g<w.heap.size/\gn<w.heap.size/\w.cell? ⟨g,0,none⟩=some (.slice (some ⟨gn,off,none⟩) n cap)/\n<=cap/\cap<=maxLen/\
   1<=x/\x<=n/\C6 (Gy w) row gn (off+(x.toNat-1)*13)/\w.cell? ⟨gn,off+(x.toNat-1)*13+11,none⟩=some (.int .i64 c)/\eB w gn (off+(x.toNat-1)*13+2) Bb:=by
 unfold h_ at e;split at e
 .rename_i FT x' KD;cases KD;split at e
  .rename_i nid off n l hc;split at e
   .rename_i cs hcs;split at e
    .rename_i hx;split at e
     .rename_i D C K B A z v t s q VA c b hrow;split at e
      .rename_i HT;simp only[JP,Bv,MJ] at HT;obtain⟨s0,W,V,T,S,R,Q,P,O,F,E⟩:=HT;obtain⟨_,y,hy,gn,cap,f,rfl,N,⟨q2,M⟩,Z⟩:=hi.Sy hc hm (j:=0) rfl;have i:gn<w.heap.size:=by obtain⟨⟨us,e,fr,G,p2⟩,_⟩:=hi.sz gn _ Z;exact(A8.1 G).1
       have get:∀(j:Nat) (a:Aa),j<13->[D,C,K,B,A,z,v,t,s,q,VA,.int .i64 c,b][j]?=some a->cs[off+(x.toNat-1)*13+j]?=some a:=λj a hj ha=>by rw[<-hrow,C1 hj,Cr] at ha;exact ha
       have key:∀(j:Nat) (a:Aa),j<13->[D,C,K,B,A,z,v,t,s,q,VA,.int .i64 c,b][j]?=some a->a.still=true->∃u,(Gy w).It gn (off+(x.toNat-1)*13+j)=some u/\BR (Gy w) a u:=λj a hj ha hs=>by obtain⟨u,hu,ho,hr⟩:=NM hi hcs f (get j a hj ha);exact⟨u,TN hu ho,BR.mem hi _ _ hs hr⟩
       have XK:w.cell? ⟨gn,off+(x.toNat-1)*13+11,none⟩=some (.int .i64 c):=by obtain⟨u,hu,_,hr⟩:=NM hi hcs f (get 11 _ Ab rfl);cases hr;exact hu
       obtain⟨u2,IE,Zi,L0⟩:=NM hi hcs f (get 2 K Ab rfl);have mk:∀(H:Aa),(∃u,(Gy w).It gn (off+(x.toNat-1)*13+2)=some u/\BR (Gy w) H u)->C6 (Gy w) [D,C,H,B,A,z,v,t,s,q,VA,.int .i64 c,b] gn (off+(x.toNat-1)*13):=λH h2=>⟨key 0 D Ab rfl s0,key 1 C Ab rfl W,h2,key 3 B Ab rfl V,key 4 A Ab rfl T,key 5 z Ab rfl S,key 6 v Ab rfl R,key 7 t Ab rfl Q,key 8 s Ab rfl P,key 9 q Ab rfl O,key 10 VA Ab rfl F,key 11 _ Ab rfl rfl,key 12 b Ab rfl E,trivial⟩
       have hg:=DT hy;split at e;.cases e;cases L0;exact⟨rfl,gn,off,n,cap,_,c,[],rfl,hg,i,hy,N,M,hx.1,hx.2.1,mk _ ⟨_,TN IE Zi,rfl⟩,XK,_,IE,.inl ⟨rfl,rfl⟩⟩
       .rename_i M4 o m;split at e
        .rename_i ks Î;split at e
         .rename_i hk;cases e;obtain⟨p,d,I,rfl,L,⟨r2,Y⟩,X⟩:=L0;obtain⟨k,t2⟩:=nA hi Î I m o Ab hk.2;have J:p<w.heap.size:=by obtain⟨⟨us,e,fr,G,p2⟩,_⟩:=hi.sz p _ X;exact(A8.1 G).1
          refine⟨rfl,gn,off,n,cap,_,c,Cw ks 1 o m,rfl,hg,i,hy,N,M,hx.1,hx.2.1,mk _ ⟨_,TN IE Zi,⟨p,o,none⟩,d,by rw[k],by rw[k];exact L,.inl rfl,t2⟩,XK,_,IE,.inr ⟨p,o,d,by rw[k],by rw[k];exact L,Y,J,t2⟩⟩
         .cases e
        .cases e
       .cases e
      .cases e
     .cases e
    .cases e
   .cases e
  .cases e
 .cases e
def ç{n:Nat}(hs:Fh cx (IT.run (B9 cx) n))(hi:Hn U h w)(hg:∀g cs,cx.Hb g=some cs->C6 U cs g 0){row:List Aa}{s:An}{h1:Ah}(e:IT.run (B9 cx) n (B9 cx 156 [.CJ row]) []=some (.ret,[.str s],h1))
  {W:World} (hb:Below w.heap.size w W) {gn o:Nat} (hr:C6 (Gy w) row gn o):
  Calls Proofs.Tryz.prog 156 #[.pointer (some ⟨gn,o,none⟩)] W λe W'=>e= .returned (.string ⟨⟨s⟩⟩)/\Below W.heap.size W W':=by
 refine((hs.2 156 _ _ _ _ e).2 (Gy W) W #[.pointer (some ⟨gn,o,none⟩)] (sy W) (λg cs a=>C6.mono (m0 hb) cs g 0 (C6.mem hi cs g 0 (UP cs (hs.1.1 g cs a)) (hg g cs a)))
  ⟨_,_,rfl,⟨gn,o,rfl,C6.mono (m0 hb) row gn o hr⟩,rfl⟩).mono λe W' he=>?_
 cases e with
 |returned v=>obtain⟨b,_,ha,hv,_⟩:=he;cases hv;exact⟨rfl,ha.os,ha.tape,ha.output,ha.size,λk hk=>(ha.Og k hk (λid=>by simp[Gy])).1⟩
 |_=>exact he.elim
end
def è{w:World}{b o:Nat}{Bb:List (List Aa)}(h:eB w b o Bb):∃p cap,w.cell? ⟨b,o,none⟩=some (.slice p Bb.length cap)/\Bb.length<=cap/\cap<=maxLen/\
  ∀(i:Nat) (y:Int),Bb[i]?=some [.int .i64 y]->∃a c,p=some ⟨a,c,none⟩/\a<w.heap.size/\w.cell? ⟨a,c+i,none⟩=some (.int .i64 y):=by
 obtain⟨v,hv,⟨rfl,rfl⟩|⟨a,c,cap,rfl,h1,h2,e,d⟩⟩:=h;.exact⟨none,0,hv,Ag _,AU,λi y hi=>by simp at hi⟩
 .refine⟨_,cap,hv,h1,h2,λi y hi=>⟨a,c,rfl,e,?_⟩⟩;obtain⟨_,⟨u,hu,hr⟩,_⟩:=E9.get d hi;cases hr;have:=hu;simp only[Gy,QQ] at this;simpa using this.1
def nB(l:List UInt8):Lib.strCells ⟨l.toArray⟩=Lib.byteCells l:=by simp[Lib.strCells,Lib.byteCells]
def eC(l:List UInt8):Lib.strCells ⟨⟨l⟩⟩=Lib.byteCells l:=by simp[Lib.strCells,Lib.byteCells]
def sN(i n:Nat)(h:i<n)(hn:n<=9223372036854775807):wrap64 ((i:Int)+1)=((i+1:Nat):Int):=by rw[Go.IntWalk.wrap64_in _ ⟨Ab,Ab⟩];omega
def aS(d:Nat)(h:d<=1000):wrap64 ((d:Int)+1)=((d+1:Nat):Int):=by rw[Go.IntWalk.wrap64_in _ ⟨Ab,Ab⟩];omega
abbrev nh(g:Nat)(w0:World)(x:Int)(d:Nat)(D0 Ru:An):Prop:=
 ∀(B b:Nat) (W:World),w0.heap.size<=B->B<=W.heap.size->Below w0.heap.size w0 W->Lib.IsBuilder 99 5 B b (Lib.byteCells D0) W->
  Calls Proofs.Tryz.prog 55 #[.pointer (some ⟨g,0,none⟩),.pointer (some ⟨b,0,none⟩),.int .i64 x,.int .i64 d] W λe W'=>(∃v,e= .returned v)/\Lib.IsBuilder 99 5 B b (Lib.byteCells Ru) W'/\Below B W W'
def iv{p:Prop}(h:p):Hid p:=h
def Mq{w0 W':World}{k j:Nat}{v:Value}(hb:Below w0.heap.size w0 W')(h:w0.cell? ⟨k,j,none⟩=some v):W'.cell? ⟨k,j,none⟩=some v:=by rw[CV (hb.block k (DT h))];exact h
def sP:Code->Code
 | .seq _ c=>sP c
 | .block _ c=>c
 |c=>c
noncomputable def tq:Code:=match Proofs.Tryz.f55.body with
 |some c=>sP c
 |none=> .skip
def tr{w0 W W6:World}{g B b d a:Nat}{p:Option Addr}{Bb:List (List Aa)}(hB:w0.heap.size<=B)(h:B<=W.heap.size)(hb:Below w0.heap.size w0 W)(hd:d<=1000)
  (Zl:Bb.length<=a) (qL:a<=maxLen) (å:∀(i:Nat) (y:Int),Bb[i]?=some [.int .i64 y]->∃l ko,p=some ⟨l,ko,none⟩/\l<w0.heap.size/\w0.cell? ⟨l,ko+i,none⟩=some (.int .i64 y))
  (f:Nat->An) (hf:∀i,i<Bb.length->∃y,Bb[i]?=some [.int .i64 y]/\nh g w0 y (d+1) (f i) (f (i+1))) (j:Below B W W6) (l6:Lib.IsBuilder 99 5 B b (Lib.byteCells (f 0)) W6)
  (z2 z4 z5 z6 z7 z8 z9 z10 z11 z12 z13 z14 Z z16 Y X V z20 U z22 T S R Q P O N M L K J I H G z37 F E D C A z x w u t z51 s z53 r q o n m:Value):
  tq.wpIn Fence.wide 5 Proofs.Tryz.prog (Exit.inBlock 0<|bodyPost Proofs.Tryz.prog Proofs.Tryz.f55 λe W'=>(∃v,e= .returned v)/\Lib.IsBuilder 99 5 B b (Lib.byteCells (f Bb.length)) W'/\Below B W W')
   {tmps:=#[.pointer (some ⟨g,0,none⟩),.pointer (some ⟨b,0,none⟩),z2,.int .i64 d,z4,z5,z6,z7,z8,z9,z10,z11,z12,z13,z14,Z,z16,Y,X,V,z20,U,z22,T,S,R,Q,P,O,N,M,L,K,J,I,H,G,z37,F,E,D,C,A,z,x,w,.slice p Bb.length a,.int .i64 Bb.length,.int .i64 0,u,t,z51,s,z53,r,q,o,n,m],defers:=[]} W6:=by
 simp only[tq,sP,Proofs.Tryz.f55];gi_loopg [48] Bb.length (λk v wr=>∃i,i<=Bb.length/\k=Bb.length-i/\v= .int .i64 (i:Nat)/\Below B W wr/\Lib.IsBuilder 99 5 B b (Lib.byteCells (f i)) wr)
 case atStart=>exact⟨0,AZ _,rfl,rfl,j,l6⟩
 case round=>
  obtain⟨i,hi,rfl,rfl,bbi,li⟩:=hrel;by_cases hlt:i<Bb.length
  .obtain⟨y,hy,aAN⟩:=hf i hlt;obtain⟨l,ko,rfl,hgk,J0⟩:=å i y hy;have c:Below w0.heap.size w0 wr:=hb.trans (bbi.mono hB);have ci:=Mq c J0;have aRn:(i:Int)<(Bb.length:Int):=by exact_mod_cast hlt
   have hwi:=sN i _ hlt (Br Zl qL);have hwd:=aS d hd;have VZ:=aAN B b _ hB (Br h bbi.size) c li;clear aAN hf å Zl qL c li l6 j J0 hy hgk hB h hb;rw[show((d+1:Nat):Int)=(d:Int)+1 from rfl] at VZ;gi_wp2
   refine⟨trivial,(callsIn_wide.2 VZ).mono ?_⟩;rintro e W7 ⟨⟨v,rfl⟩,l7,b7⟩;gi_wp2
   gi_roundg (Bb.length-(i+1))
   case measure=>exact Nat.sub_lt_sub_left hlt (Nt i)
   case rel=>refine⟨i+1,hlt,rfl,?_,bbi.trans b7,l7⟩;first|rfl|exact Ca (Value.int .i64) hwi
  .obtain rfl:i=Bb.length:=Nat.le_antisymm hi (Nat.le_of_not_lt hlt);gi_wp2
   go_end0
   exact⟨⟨_,rfl⟩,li,bbi⟩
def aCA{w0:World}{g gn off n cap:Nat}{c x:Int}{Bb:List (List Aa)}(U:g<w0.heap.size)(V:gn<w0.heap.size)(hc:w0.cell? ⟨g,0,none⟩=some (.slice (some ⟨gn,off,none⟩) n cap))(Pz:n<=cap)(hm:cap<=maxLen)
  (Pb:1<=x) (dY:x<=n) (Zm:w0.cell? ⟨gn,off+(x.toNat-1)*13+11,none⟩=some (.int .i64 c)) (hk:eB w0 gn (off+(x.toNat-1)*13+2) Bb)
  {d:Nat} (hd:d<=1000) {D0 j s:An}
  (xN:∀W,Below w0.heap.size w0 W->Calls Proofs.Tryz.prog 156 #[.pointer (some ⟨gn,off+(x.toNat-1)*13,none⟩)] W λe W'=>e= .returned (.string ⟨⟨s⟩⟩)/\Below W.heap.size W W')
  (hlen:(D0++List.replicate (2*d) 32++s++[10]).length<=AS)
  (xO:(c=0/\j=D0++List.replicate (2*d) 32++s++[10])\/(c≠0/\nh g w0 c (d+1) (D0++List.replicate (2*d) 32++s++[10]) j))
  (f:Nat->An) (qI:f 0=j) (hf:∀i,i<Bb.length->∃y,Bb[i]?=some [.int .i64 y]/\nh g w0 y (d+1) (f i) (f (i+1))):
  nh g w0 x d D0 (f Bb.length):=by
 intro B b W hB a hb G;obtain⟨p,P,Zs,Zl,qL,å⟩:=è hk;have h:AS=140737488355328:=rfl;simp only[Av,FZ,Bf,BT] at hlen;have O:2*d<=140737488355328:=by rw[h] at hlen;omega
 have N:(Lib.byteCells D0).length+(⟨(List.replicate (2*d) (32:UInt8)).toArray⟩:ByteArray).size<=140737488355328:=by rw[h] at hlen;rw[byteCells_length];simp only[ByteArray.size,B8,FZ];omega
 have M:(Lib.byteCells (D0++List.replicate (2*d) 32)).length+(⟨⟨s⟩⟩:ByteArray).size<=140737488355328:=by rw[h] at hlen;rw[byteCells_length];simp only[ByteArray.size,Av,FZ];show _+s.length<=_;omega
 have L:(Lib.byteCells (D0++List.replicate (2*d) 32++s)).length+1<=140737488355328:=by rw[h] at hlen;rw[byteCells_length];simp only[Av,FZ];omega
 have K:d<=9223372036854775807:=Br hd AU;clear hlen h;have Hline:=iv xN;have o:=iv xO;have S:=iv hf;have w:=iv å;have A:=iv Zl;have z:=iv qL;clear xN xO hf å hk Zl qL;refine(callsIn_wide (n:=5)).1 ?_;refine callsIn_of_wp Proofs.Tryz.func55 rfl trivial ?_ rfl;simp only[Proofs.Tryz.ntmps55,B8,Bf,BT,Nat.reduceAdd,Nat.reduceSub,KA,KB,MN,K8,BU,CO];gi_wp2
 refine⟨trivial,(callsIn_wide.2 (aF4 g gn off n cap x _ (Mq hb hc) Pb dY Pz hm)).mono ?_⟩;rintro e w' ⟨rfl,rfl⟩;gi_wp2
 refine⟨trivial,(callsIn_wide.2 (Proofs.Tryz.strings_Repeat ⟨#[32,32]⟩ d _ K O)).mono ?_⟩;rintro e W1 ⟨rfl,b1⟩;have Tw:Below w0.heap.size w0 W1:=hb.trans (b1.mono hb.size);have u:Below B W W1:=b1.mono a;have l1:=OY G b1;have hr:(Lib.repeatL (⟨#[32,32]⟩:ByteArray).data.toList d)=List.replicate (2*d) 32:=sL d;rw[hr];gi_wp2
 refine⟨trivial,(callsIn_wide.2 (Proofs.Tryz.Builder_WriteString B b (Lib.byteCells D0) _ _ l1 N (Br a u.size))).mono ?_⟩;rintro e Z ⟨rfl,E,b2⟩;rw[nB,<-KV] at E;have t:=u.trans b2;have Ob:Below w0.heap.size w0 Z:=Tw.trans (b2.mono hB);gi_wp2
 refine⟨trivial,(callsIn_wide.2 (Hline.out _ Ob)).mono ?_⟩;rintro e W3 ⟨rfl,b3⟩;have ni:Below w0.heap.size w0 W3:=Ob.trans (b3.mono Ob.size);have r:Below B W W3:=t.trans (b3.mono (Br a t.size));have l3:=OY (.inr E) b3;gi_wp2
 refine⟨trivial,(callsIn_wide.2 (Proofs.Tryz.Builder_WriteString B b _ _ _ l3 M (Br a r.size))).mono ?_⟩;rintro e Y ⟨rfl,l4,b4⟩;rw[eC,<-KV] at l4;have q:=r.trans b4;have I:Below w0.heap.size w0 Y:=ni.trans (b4.mono hB);gi_wp2
 refine⟨trivial,(callsIn_wide.2 (Proofs.Tryz.Builder_WriteByte B b _ 10 _ (.inr l4) L (Br a q.size))).mono ?_⟩;rintro e R ⟨rfl,C,b5⟩;have J:Lib.byteCells (D0++List.replicate (2*d) 32++s)++[Value.int .u8 10]=Lib.byteCells (D0++List.replicate (2*d) 32++s++[10]):=by rw[KV (D0++List.replicate (2*d) 32++s) [10]];rfl
 replace C:=J▸C;have m:=q.trans b5;have k:Below w0.heap.size w0 R:=I.trans (b5.mono hB);have c5:=Mq k Zm;clear Pz hm Pb dY hc O N M L K l1 l3 l4 E;rcases o.out with⟨rfl,rfl⟩|⟨F,tw⟩
 .have l:=m;have l6:Lib.IsBuilder 99 5 B b (Lib.byteCells (f 0)) R:=by rw[qI];exact .inr C
  have X:=Mq k Zs;gi_wp2
  exact tr hB a hb hd A.out z.out w.out f S.out l l6 _ _ _ _ _ _ _ _ _ _ _ _ _ _ _ _ _ _ _ _ _ _ _ _ _ _ _ _ _ _ _ _ _ _ _ _ _ _ _ _ _ _ _ _ _ _ _ _ _ _ _ _ _
 .have hne:(c != 0)=true:=by simp[F]
  have T:=aS d hd;have aF7:=tw B b _ hB (Br a m.size) k (.inr C);rw[show((d+1:Nat):Int)=(d:Int)+1 from rfl] at aF7;gi_wp2
  refine⟨trivial,(callsIn_wide.2 aF7).mono ?_⟩;rintro e Q ⟨⟨v,rfl⟩,D,b6⟩;have l:=m.trans b6;have H:Below w0.heap.size w0 Q:=k.trans (b6.mono hB);have l6:Lib.IsBuilder 99 5 B b (Lib.byteCells (f 0)) Q:=by rw[qI];exact D
  have X:=Mq H Zs;gi_wp2
  exact tr hB a hb hd A.out z.out w.out f S.out l l6 _ _ _ _ _ _ _ _ _ _ _ _ _ _ _ _ _ _ _ _ _ _ _ _ _ _ _ _ _ _ _ _ _ _ _ _ _ _ _ _ _ _ _ _ _ _ _ _ _ _ _ _ _
section
variable{U:Gh}{h:Ah}{w0:World}
abbrev aCC(fuel d:Nat)(a:Aa):List Aa->(An->IT)->An->IT:=λM4 K D0=>match M4 with
 |[.int .i64 y]=>HV 156 a fuel y (d+1) D0 K
 |_=> .fail
def nC{run:IT->Ah->Option Ke}{g fuel d:Nat}{a:Aa}(ih:∀(x:Int) (D0:An) (k:An->IT) (res:Ke),IT.step (B9 cx) run (HV 156 a fuel x (d+1) D0 k) h=some res->∃Ru,IT.step (B9 cx) run (k Ru) h=some res/\nh g w0 x (d+1) D0 Ru):
  ∀(Bb:List (List Aa)) (D0:An) (k:An->IT) (res:Ke),IT.step (B9 cx) run (Bb.foldr (aCC fuel d a) k D0) h=some res->
   ∃f:Nat->An,f 0=D0/\IT.step (B9 cx) run (k (f Bb.length)) h=some res/\∀i,i<Bb.length->∃y,Bb[i]?=some [.int .i64 y]/\nh g w0 y (d+1) (f i) (f (i+1))
 |[],D0,k,res,e=>⟨λ_=>D0,rfl,e,λi hi=>by simp at hi⟩
 |M4::Bb,D0,k,res,e=>by
  simp only[List.foldr_cons] at e;unfold aCC at e;split at e
  .rename_i y;obtain⟨b,j,l⟩:=ih _ _ _ _ e;obtain⟨f,f0,f1,f2⟩:=nC ih Bb b k res j;refine⟨λ|0=>D0|i+1=>f i,rfl,f1,λi hi=>?_⟩;cases i with
   |zero=>
    have hc:nh g w0 y (d+1) D0 (f 0):=by rw[f0];exact l
    exact⟨y,rfl,hc⟩
   |succ i=>obtain⟨c,p,q⟩:=f2 i (by simpa using hi);exact⟨c,by simpa using p,q⟩
  .cases e
def tz{run:IT->Ah->Option Ke}{a:Aa}{x:Int}{d:Nat}{D0:An}{k:An->IT}{res:Ke}(fuel:Nat)(e:IT.step (B9 cx) run (HV 156 a fuel x d D0 k) h=some res):∃id,a= .ptr (some (id,0)):=by
 cases fuel with
 |zero=>simp[HV,IT.step] at e
 |succ fuel=>
  simp only[HV,IT.step,E7] at e;cases e0:h_ h [a,.int .i64 x] with
  |none=>simp[e0] at e
  |some b=>
   unfold h_ at e0;split at e0;.rename_i id x' KD;cases KD;exact⟨id,rfl⟩
   .cases e0
def nD{n:Nat}(hs:Fh cx (IT.run (B9 cx) n))(hi:Hn U h w0)(hg:∀g cs,cx.Hb g=some cs->C6 U cs g 0){id g:Nat}(hm:U.mu id=some g):
  ∀(fuel:Nat) (x:Int) (d:Nat) (D0:An) (k:An->IT) (res:Ke),d+fuel<=1000->IT.step (B9 cx) (IT.run (B9 cx) n) (HV 156 (.ptr (some (id,0))) fuel x d D0 k) h=some res->
   ∃Ru,IT.step (B9 cx) (IT.run (B9 cx) n) (k Ru) h=some res/\nh g w0 x d D0 Ru/\∃p cap ln,w0.cell? ⟨g,0,none⟩=some (.slice p ln cap)/\1<=x/\x<=ln
 |0,x,d,D0,k,res,_,e=>by simp[HV,IT.step] at e
 |fuel+1,x,d,D0,k,res,hd,e=>by
  simp only[HV,IT.step,E7] at e;cases e0:h_ h [.ptr (some (id,0)),.int .i64 x] with
  |none=>simp[e0] at e
  |some u=>
  obtain⟨h1,r⟩:=u;simp only[e0] at e;obtain⟨m,gn,off,w,cap,row,c,Bb,rfl,i,j,hc,Pz,aT,Pb,dY,hrow,Zm,hk⟩:=tn hi hm e0;simp only[IT.step] at e;rw[m] at e;clear m;cases l:IT.run (B9 cx) n (B9 cx 156 [.CJ row]) [] with
  |none=>simp[l] at e
  |some y=>
  simp only[l] at e;split at e
  .rename_i v o KD;cases KD;split at e
   .split at e
    .rename_i s Hm;split at e
     .rename_i hlen;have ih:∀(x:Int) (D0:An) (k:An->IT) (res:Ke),IT.step (B9 cx) (IT.run (B9 cx) n) (HV 156 (.ptr (some (id,0))) fuel x (d+1) D0 k) h=some res->∃Ru,IT.step (B9 cx) (IT.run (B9 cx) n) (k Ru) h=some res/\nh g w0 x (d+1) D0 Ru:=λx D0 k res e=>by obtain⟨Ru,p,q,_⟩:=nD hs hi hg hm fuel x (d+1) D0 k res Ab e;exact⟨Ru,p,q⟩
      have xN:∀W,Below w0.heap.size w0 W->Calls Proofs.Tryz.prog 156 #[.pointer (some ⟨gn,off+(x.toNat-1)*13,none⟩)] W λe W'=>e= .returned (.string ⟨⟨s⟩⟩)/\Below W.heap.size W W':=
       λW hb=>ç hs hi hg l hb hrow
      have HG:∀a,((c=0/\a=D0++List.replicate (2*d) 32++s++[10])\/(c≠0/\nh g w0 c (d+1) (D0++List.replicate (2*d) 32++s++[10]) a))->
        IT.step (B9 cx) (IT.run (B9 cx) n) (Bb.foldr (aCC fuel d (.ptr (some (id,0)))) k a) h=some res->∃Ru,IT.step (B9 cx) (IT.run (B9 cx) n) (k Ru) h=some res/\nh g w0 x d D0 Ru/\∃p cap ln,w0.cell? ⟨g,0,none⟩=some (.slice p ln cap)/\1<=x/\x<=ln:=by
       intro a xO t;obtain⟨f,f0,f1,f2⟩:=nC ih Bb a k res t;exact⟨f Bb.length,f1,aCA i j hc Pz aT Pb dY Zm hk Ab xN hlen xO f f0 f2,_,_,_,hc,Pb,dY⟩
      split at e;.rename_i b;exact HG _ (.inl ⟨b,rfl⟩) e
      .rename_i b;obtain⟨a,p,q⟩:=ih _ _ _ _ e;exact HG a (.inr ⟨b,q⟩) p
     .cases e
    .cases e
   .cases e
  .cases e
end
def aCD{w0:World}{g ln cap:Nat}{p:Option Addr}{x:Int}{s:An}(b:g<w0.heap.size)(hc:w0.cell? ⟨g,0,none⟩=some (.slice p ln cap))(Pb:1<=x)(dY:x<=ln)(tw:nh g w0 x 0 [] s):
  Calls Proofs.Tryz.prog 21 #[.pointer (some ⟨g,0,none⟩),.int .i64 x] w0 λe w'=>e= .returned (.string ⟨⟨s⟩⟩)/\Below w0.heap.size w0 w':=by
 have c:decide (1<=x/\x<=ln)=true:=As ⟨Pb,dY⟩;have aLn:(w0.alloc (.cells #[.pointer none,.slice none 0 0] 99)).heap[w0.heap.size]?=some (.cells #[.pointer none,.slice none 0 0] 99 (0,0)):=World.alloc_heap_new w0 _;have Tw:Below w0.heap.size w0 (w0.alloc (.cells #[.pointer none,.slice none 0 0] 99)):=(Below.refl _ w0).alloc (Ag _) _;have l1:Lib.IsBuilder 99 5 w0.heap.size w0.heap.size (Lib.byteCells []) (w0.alloc (.cells #[.pointer none,.slice none 0 0] 99)):=
  .inl ⟨Ag _,.slice none 0 0,aLn,World.ownsRow_nil _ _ _ _,by simp[Value.ownBlock]⟩
 have VZ:=tw w0.heap.size w0.heap.size _ (Ag _) AH Tw l1;rw[show((0:Nat):Int)=0 from rfl] at VZ;refine(callsIn_wide (n:=5)).1 ?_;refine callsIn_of_wp Proofs.Tryz.func21 rfl trivial ?_ rfl;simp only[Proofs.Tryz.ntmps21,B8,Bf,BT,Nat.reduceAdd,Nat.reduceSub,KA,KB,MN,K8,BU,CO];gi_wp2
 refine⟨trivial,(callsIn_wide.2 (aR g _ ln cap x _ hc)).mono ?_⟩;rintro e w' ⟨rfl,rfl⟩;rw[c];gi_wp2
 refine⟨trivial,(callsIn_wide.2 VZ).mono ?_⟩;rintro e d ⟨⟨v,rfl⟩,a,b2⟩;gi_wp2
 refine⟨trivial,(callsIn_wide.2 (Proofs.Tryz.Builder_String_any w0.heap.size w0.heap.size s _ a (by have:=b2.size;have:=Tw.size;omega))).mono ?_⟩;rintro e W3 ⟨rfl,b3⟩;gi_wp2
 refine bodyPost_ret (results_tmp rfl _ _ _) rfl ?_;exact⟨rfl,(Tw.trans b2).trans b3⟩
def aCE{h:Ah}(n:Nat)(hs:Fh cx (IT.run (B9 cx) n))(args:List Aa)(r:Aa)(h':Ah)(A4:IT.step (B9 cx) (IT.run (B9 cx) n) (xJ 156 args) h=some (.ret,[r],h')):
  (∃fn c,cx.P.funcs[EF 21]?=some fn/\(fn.name== "runtime.NumGoroutine")=false/\fn.body=some c)/\
  ∀(U:Gh) (w:World) (cargs:Array Value),Hn U h w->(∀g cs,cx.Hb g=some cs->C6 U cs g 0)->Bj U args cargs.toList->
   Calls cx.P (EF 21) cargs w λe w'=>match e with
    | .returned v=>∃d,Hn d h' w'/\Lq U w d w'/\BR d r v/\(cx.Jk 21=true->∃s c,IY d w.heap.size w' s c v r)
    |_=>False:=by
 refine⟨⟨_,_,Proofs.Tryz.func21,rfl,rfl⟩,λU w cargs hi hg ha=>?_⟩;have aLo:∃id x,args=[.ptr (some (id,0)),.int .i64 x]:=by
  unfold xJ at A4;split at A4;.rename_i a x;obtain⟨id,rfl⟩:=tz _ A4;exact⟨id,x,rfl⟩
  .cases A4
 obtain⟨id,x,rfl⟩:=aLo;obtain⟨v0,us,f,⟨g,hm,rfl⟩,k,i,rfl,rfl,hnil⟩:=ha;cases hnil;have b:cargs=#[.pointer (some ⟨g,0,none⟩),.int .i64 x]:=by apply HD;simpa using f
 subst b;simp only[xJ] at A4;obtain⟨D0,j,tw,p,cap,ln,hc,Pb,dY⟩:=nD hs hi hg hm 100 x 0 [] _ _ Ab A4;cases j;refine(aCD (DT hc) hc Pb dY tw).mono λe w' he=>?_;obtain⟨rfl,hb⟩:=he;obtain⟨V0,O8⟩:=hi.Lu hb;exact⟨U,V0,O8,rfl,λe=>by cases e⟩
end Go.Am
end
section
namespace Go.Am
open Go
def é:dM cx:=by
 refine⟨λf hf=>?_,λf p hp n hs args h r h' A4=>?_⟩
 .simp only[cx,aFQ] at hf;split at hf;.exact iu
  .cases hf
 .simp only[cx,aAI] at hp;split at hp;.cases hp;exact aCE n hs args r h' A4
  .cases hp;exact aCq n args r h' A4
  .cases hp;exact æ n args r h' A4
  .cases hp;exact ä n hs args r h' A4
  .cases hp
end Go.Am
end
