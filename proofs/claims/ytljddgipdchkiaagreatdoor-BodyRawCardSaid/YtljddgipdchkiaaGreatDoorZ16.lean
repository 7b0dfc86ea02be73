/- Lemmas -/
import Derived.Test.YtljddgipdchkiaaGreatDoorZ15
import Derived.RangeFuncBox
import Derived.OwnWalkIn
import Derived.TacticsInMore
import Derived.LoopNIn
import Derived.Sort.LoopGhostIn
set_option linter.all false
set_option maxHeartbeats 0
set_option maxRecDepth 100000
section
namespace Go.Am
open Go Go.RowKit Go.Shelf
def Y9(ga:Nat)(p:Option Addr)(n cap:Nat)(x:Int)(w:World)(hc:w.cell? ⟨ga,0,none⟩=some (.slice p n cap)):
  Calls Proofs.Tryz.prog 54 #[.pointer (some ⟨ga,0,none⟩),.int .i64 x] w λe w'=>e= .returned (.bool (decide (1<=x/\x<=n)))/\w=w':=by
 go_enter Proofs.Tryz.func54,Proofs.Tryz.ntmps54
 go_wp2
 all_goals refine bodyPost_ret (results_tmp rfl _ _ _) rfl ?_
 all_goals simp_all
 all_goals omega
def aFX(ga gn off n cap:Nat)(x:Int)(w:World)(hc:w.cell? ⟨ga,0,none⟩=some (.slice (some ⟨gn,off,none⟩) n cap))(h1:1<=x)(h2:x<=n)(O8:n<=cap)(hm:cap<=maxLen):
  Calls Proofs.Tryz.prog 153 #[.pointer (some ⟨ga,0,none⟩),.int .i64 x] w λe w'=>e= .returned (.pointer (some ⟨gn,off+(x.toNat-1)*13,none⟩))/\w=w':=by
 have hb:maxLen<=9223372036854775807:=A5;have hw:wrap64 (x-1)=x-1:=Go.IntWalk.wrap64_in _ ⟨Ab,Ab⟩;go_enter Proofs.Tryz.func153,Proofs.Tryz.ntmps153
 go_wp2
 all_goals refine bodyPost_ret (results_tmp rfl _ _ _) rfl ?_
 all_goals exact⟨rfl,rfl⟩
def aFY(ga:Nat)(x:Int)(w:World):
  Calls Proofs.Tryz.prog 362 #[.pointer (some ⟨ga,0,none⟩),.int .i64 x,.bool true] w λe w'=>e= .returned (.func (.func 415) #[] #[.pointer (some ⟨w.heap.size+1,0,none⟩),.pointer (some ⟨w.heap.size,0,none⟩),.pointer (some ⟨w.heap.size+1+1,0,none⟩)])/\
   w'=((w.alloc (.cells #[.pointer (some ⟨ga,0,none⟩)] 60)).alloc (.cells #[.int .i64 x] 3)).alloc (.cells #[.bool true] 4):=by
 have a:∀(fn:Fn) (first cap:Array Value) (w:World),(Instr.makeFunc fn first cap).run Proofs.Tryz.prog w= .ok (.func fn first cap) w:=λ_ _ _ _=>rfl;go_enter Proofs.Tryz.func362,Proofs.Tryz.ntmps362
 go_wp2
 go_ret
 exact⟨rfl,rfl⟩
def lP{cs:List Aa}{off n:Nat}{up:Int}{k:Nat}{b:Bool}(h:LG cs off n up k 0=some b):b=false:=by cases k<;>simp[LG] at h<;>exact h
def lQ{cs:List Aa}{off n:Nat}{up x:Int}{k:Nat}{b:Bool}(h:LG cs off n up k x=some b)(hx:x≠0):∃k',k=k'+1/\
  ((x=up/\b=true)\/(x≠up/\1<=x/\x<=n/\∃p q,GP cs off x 1=some p/\GP cs off x 12=some q/\LG cs off n up k' (if p=0 then q else p)=some b)):=by
 cases k with
 |zero=>
  rw[LG] at h;. cases h
  .exact λe=>hx e
 |succ k=>
  refine⟨k,rfl,?_⟩;rw[LG] at h
  .split at h;.rename_i e;cases h;exact .inl ⟨e,rfl⟩
   .rename_i e;split at h
    .rename_i hr;split at h;.rename_i p q c a;exact .inr ⟨e,hr.1,hr.2,p,q,c,a,h⟩
     .cases h
    .cases h
  .exact λe=>hx e
structure fN(Ba Bo ga gn off n cap:Nat)(cs:List Aa)(W:World):Prop where
 a:W.cell? ⟨Ba,0,none⟩=some (.pointer (some ⟨ga,0,none⟩))
 o:W.cell? ⟨Bo,0,none⟩=some (.bool true)
 c:W.cell? ⟨ga,0,none⟩=some (.slice (some ⟨gn,off,none⟩) n cap)
 x:∀(h:Int) (k:Nat) (v:Int),1<=h->h<=n->(k=1\/k=12)->GP cs off h k=some v->W.cell? ⟨gn,off+(h.toNat-1)*13+k,none⟩=some (.int .i64 v)
def fN.NX{Ba Bo ga gn off n cap:Nat}{cs:List Aa}{A B:World}(h:fN Ba Bo ga gn off n cap cs A)(hk:∀b,b=Ba\/b=Bo\/b=ga\/b=gn->B.heap[b]?=A.heap[b]?):fN Ba Bo ga gn off n cap cs B:=
 ⟨by rw[CS (hk _ AK)];exact h.a,by rw[CS (hk _ AK)];exact h.o,by rw[CS (hk _ AK)];exact h.c,
  λx k v h1 h2 e d=>by rw[CS (hk _ AK)];exact h.x x k v h1 h2 e d⟩
def qF{Ba Bo ga gn off n cap a:Nat}{cs:List Aa}{A:World}{u:Value}{J:World->Prop}(c:∀A B row,J A->A.grownBy B row->(∀r,row=some r->r=a)->J B)
  (hd:∀b,b=Ba\/b=Bo\/b=ga\/b=gn->b≠a) (hs:fN Ba Bo ga gn off n cap cs A) (hc:A.cell? ⟨a,0,none⟩=some u) (hf:A.frozen? ⟨a,0,none⟩=false) (hj:J A) (v:Value):
  fN Ba Bo ga gn off n cap cs (A.setCell ⟨a,0,none⟩ v)/\(A.setCell ⟨a,0,none⟩ v).cell? ⟨a,0,none⟩=some v/\(A.setCell ⟨a,0,none⟩ v).frozen? ⟨a,0,none⟩=false/\J (A.setCell ⟨a,0,none⟩ v):=
 ⟨hs.NX λb hb=>Below.heap_setCell _ _ _ b (hd b hb),World.cell?_setCell_same _ _ _ hc,by rw[World.frozen?_setCell];exact hf,c _ _ _ hj (grownBy_setCell' A a v) λr e=>by cases e;rfl⟩
def aFZ(m l d Ba Bo n₁ ga gn off n cap:Nat)(cs:List Aa)(up:Int)(J D:World->Prop)
  (z:∀A B row,J A->A.grownBy B row->(∀r,row=some r->r=d)->J B)
  (K:∀x W,J W->YieldAt Fence.wide (m-1) Proofs.Tryz.prog l #[.int .i64 x] W λe W'=>(e= .returned (.bool true)/\J W'/\Below n₁ W W'/\x≠up)\/(e= .returned (.bool false)/\D W'/\x=up))
  (hd:∀b,b=Ba\/b=Bo\/b=ga\/b=gn->b<n₁/\b≠d) (h:d<n₁) (O8:n<=cap) (hm:cap<=maxLen)
  (W:World) (i:Int) (hs:fN Ba Bo ga gn off n cap cs W) (s:W.cell? ⟨d,0,none⟩=some (.int .i64 i)) (hf:W.frozen? ⟨d,0,none⟩=false)
  (fuel:Nat) (b:Bool) (hcl:LG cs off n up fuel i=some b) (h0:J W):
  CallsIn Fence.wide m Proofs.Tryz.prog 415 #[.func (.yield l) #[] #[],.pointer (some ⟨d,0,none⟩),.pointer (some ⟨Ba,0,none⟩),.pointer (some ⟨Bo,0,none⟩)] W λe W'=>(∃v,e= .returned v)/\((b=false/\J W')\/(b=true/\D W')):=by
 refine callsIn_of_wp Proofs.Tryz.func415 rfl trivial ?_ rfl;simp only[Proofs.Tryz.ntmps415,Cb,Be,B1,Nat.reduceAdd,Nat.reduceSub,Km,Kn,MB,KO,BV,CK];gi_wp2
 gi_loopg [] fuel (λk wr=>∃x,LG cs off n up k x=some b/\fN Ba Bo ga gn off n cap cs wr/\wr.cell? ⟨d,0,none⟩=some (.int .i64 x)/\wr.frozen? ⟨d,0,none⟩=false/\J wr)
 case atStart=>exact⟨i,hcl,hs,s,hf,h0⟩
 case round=>
  obtain⟨x,hcl,hs,s,hf,hj⟩:=hrel;by_cases hx:x=0
  .subst hx;have:=lP hcl;subst this;gi_wp2
   refine⟨nofun,?_⟩;gi_wp2
   go_end0
   exact⟨⟨_,rfl⟩,hj⟩
  .obtain⟨k',rfl,I6⟩:=lQ hcl hx;have hne:(x != 0)=true:=by simp[hx]
   obtain⟨fn,tmps,assign,body,hy,hR⟩:=K x wr hj;gi_wp2
   refine⟨nofun,?_⟩;refine hR.mono ?_;rintro e W3 (⟨rfl,u,jS,ĵ⟩|⟨rfl,g,ĵ⟩)
   .rcases I6 with⟨rfl,_⟩|⟨_,h1,h2,p,q,M,L,aAB⟩
    .exact absurd rfl ĵ
    have f:=hs.NX λb hb=>jS.block b (hd b hb).1;have j:W3.cell? ⟨d,0,none⟩=some (.int .i64 x):=by rw[CS (jS.block d h)];exact s
    have t:W3.frozen? ⟨d,0,none⟩=false:=by rw[<-hf];simp only[World.frozen?,jS.block d h]
    have hp:=f.x x 1 p h1 h2 (.inl rfl) M;have hq:=f.x x 12 q h1 h2 (.inr rfl) L;have O:=f.a;have N:=f.o;have G:¬Bo=d:=(hd Bo AK).2;have F:¬gn=d:=(hd gn AK).2;gi_wp2
    refine⟨trivial,nofun,(callsIn_wide.2 (aFX ga gn off n cap x _ f.c h1 h2 O8 hm)).mono ?_⟩;rintro e w' ⟨rfl,rfl⟩;obtain⟨w,C,z4,y⟩:=qF z (λb hb=>(hd b hb).2) f j t u (.int .i64 p);by_cases Ż:p=0
    .subst Ż;obtain⟨E,P,z5,H⟩:=qF z (λb hb=>(hd b hb).2) w C z4 y (.int .i64 q);gi_wp2
     gi_roundg k'
     case measure=>omega
     case rel=>exact⟨q,aAB,E,P,z5,H⟩
    .have I:(p==0)=false:=by simp[Ż]
     gi_wp2
     gi_roundg k'
     case measure=>omega
     case rel=>exact⟨p,by rw[Ac Ż] at aAB;exact aAB,w,C,z4,y⟩
   .rcases I6 with⟨_,rfl⟩|⟨aMT,_⟩
    .gi_wp2
     go_end0
     exact⟨⟨_,rfl⟩,g⟩
    .exact absurd ĵ aMT
def aAD(n₁:Nat)(up:Int)(I a:World->Prop)(x:Int)(W:World):Exit->Act->World->Prop
 | .normal,_,W'=>KeepsOthers W W'/\Below n₁ W W'/\I W'/\x≠up
 | .ret,_,W'=>KeepsOthers W W'/\a W'/\x=up
 | .exit _,_,_=>False
 | .goto _,_,_=>False
 | .panic _,_,_=>False
 | .outgrown,_,_=>False
def aK{P:Program}{n gf:Nat}{lb:Array Value}{g:Operand}{ps:Array Tmp}{assign body:Code}{Q:Exit->Act->World->Prop}{a:Act}{w:World}(h:Nat)(b:Bool)(up:Int)
  (hg:a.eval g= .func (.func gf) #[] lb) (u:∀args w,(callFunc gf args).run P w= .ok (.enter gf args) w) (s:h<w.heap.size)
  (aAE:∀(l:Nat) (J o:World->Prop) (W:World),Below w.heap.size w W->(∀A B row,J A->A.grownBy B row->(∀r,row=some r->r=h)->J B)->
   (∀x W1,J W1->YieldAt Fence.wide (n-1 -1) P l #[.int .i64 x] W1 λe W'=>(e= .returned (.bool true)/\J W'/\Below w.heap.size W1 W'/\x≠up)\/(e= .returned (.bool false)/\o W'/\x=up))->J W->
   CallsIn Fence.wide (n-1) P gf (#[.func (.yield l) #[] #[]]++lb) W λe W'=>(∃v,e= .returned v)/\((b=false/\J W')\/(b=true/\o W')))
  (sr:ps.size=1) (I f:World->Prop) (hI:∀A B row,I A->A.grownBy B row->(∀r,row=some r->r=h\/w.heap.size<=r)->I B)
  (hIx:∀A B row,f A->A.grownBy B row->(∀r,row=some r->r=h\/w.heap.size<=r)->f B) (h0:I w) (a₁:Int->Act)
  (hassign:∀(l:Nat) (x:Int) (W:World) (K:Act->World->Prop),K (a₁ x) W->
   assign.wpIn (Fence.wide.inRound l) (n-1 -1) P (Exit.then K (λ_ _ _=>False)) {tmps:=(ps.zip #[.int .i64 x]).foldl (λt (p,v)=>t.setIfInBounds p v) a.tmps,defers:=[]} W)
  (Wu:∀(l:Nat) (x:Int) (W:World),I W->body.wpIn (Fence.wide.inRound l) (n-1 -1) P (aAD w.heap.size up I f x W) (a₁ x) W)
  (ic:∀(D:Nat) (W:World),b=false->I W->W.heap[D]?=some (.deferred (some []))->w.heap.size<=D->Q .normal {a with defers:={target:= .collected D,args:=#[]}::a.defers} W)
  (ij:∀(D:Nat) (W:World),b=true->f W->W.heap[D]?=some (.deferred (some []))->w.heap.size<=D->Code.ret.wpIn Fence.wide n P Q {a with defers:={target:= .collected D,args:=#[]}::a.defers} W):
  (Code.rangeFunc g ps assign body).wpIn Fence.wide n P Q a w:=by
 refine wpIn_rangeFunc ?_;intro fn sk;have hro:Fence.wide.round=none:=rfl;rw[hro];obtain⟨rec,UN⟩:∃rec:LoopState->Option Code->Loop,rec=λst q=>{state:=st,pending:=q,fn,tmps:=a.tmps,params:=ps,assign,body,defers:=w.heap.size}:=⟨_,rfl⟩;obtain⟨W1,c⟩:∃W1,(w.alloc (.deferred (some []))).alloc (.loop (rec .ready none))=W1:=⟨_,rfl⟩;have i:W1.heap[w.heap.size+1]?=some (.loop (rec .ready none)):=by rw[<-c];have:=World.alloc_heap_new (w.alloc (.deferred (some []))) (.loop (rec .ready none));rwa [World.size_alloc] at this
 have j:W1.heap[w.heap.size]?=some (.deferred (some [])):=by rw[<-c];exact(Below.heap_alloc _ _ _ AK).trans (World.alloc_heap_new w _)
 have k:I W1:=by rw[<-c];exact hI _ _ none (hI _ _ none h0 (World.grownBy_alloc _ _ none) nofun) (World.grownBy_alloc _ _ none) nofun
 have SP:Below w.heap.size w W1:=by rw[<-c];exact(((Below.refl _ w).alloc (Ag _) _).alloc AK _)
 refine⟨w.heap.size+1,[{target:= .collected w.heap.size,args:=#[]}],W1,{target:= .fn (.func gf) lb,args:=#[.func (.yield (w.heap.size+1)) #[] #[]]},W1,gf,
  #[.func (.yield (w.heap.size+1)) #[] #[]]++lb,W1,?_,?_,?_,?_,nofun,?_⟩
 .rw[<-c,UN];exact run_enterLoop_outer _ _ _ _ _
 .simp only[resolve,hg];simp[go_sem]
 .intro f' gg;trivial
 .simp[invoke,go_sem,u]
 .refine(aAE (w.heap.size+1)
   (λW=>I W/\W.heap[w.heap.size+1]?=some (.loop (rec .ready none))/\W.heap[w.heap.size]?=some (.deferred (some [])))
   (λW=>f W/\W.heap[w.heap.size+1]?=some (.loop (rec .done (some .ret)))/\W.heap[w.heap.size]?=some (.deferred (some [])))
   W1 SP
   (λA B row hs hg' hr=>⟨hI A B row hs.1 hg' (λr e=> .inl (hr r e)),(hg'.block _ (A7.1 hs.2.1).1 (λe=>by have:=hr _ e.symm;omega)).trans hs.2.1,
    (hg'.block _ (A7.1 hs.2.2).1 (λe=>by have:=hr _ e.symm;omega)).trans hs.2.2⟩)
   ?_ ⟨k,i,j⟩).mono ?_
  .rintro x W ⟨hi,hl,hk⟩;have hlt:w.heap.size+1<W.heap.size:=(A7.1 hl).1;have hy:=run_yield (P:=P) (args:=#[.int .i64 x]) hl (by rw[UN];exact sr.symm);rw[UN] at hy;refine⟨fn,_,assign,body,hy,roundIn_of_wpIn sk (hassign _ x W _ ⟨_,run_beginRound hl (by rw[UN]),?_⟩)⟩;have Y8:(W.putObj (w.heap.size+1) (.loop {rec .ready none with state:= .busy})).heap[w.heap.size+1]?=some (.loop {rec .ready none with state:= .busy}):=World.putObj_heap_same hlt;have X6:(W.putObj (w.heap.size+1) (.loop {rec .ready none with state:= .busy})).heap[w.heap.size]?=some (.deferred (some [])):=(World.putObj_heap_other Ab).trans hk;have f_:Below w.heap.size W (W.putObj (w.heap.size+1) (.loop {rec .ready none with state:= .busy})):=belowK_b (Ag _) W _ _ _ Ab hl rfl rfl;refine wpIn_mono (Wu _ x _ (hI _ _ _ hi (grownBy_putObj' W _ _) (λr e=> .inr (by cases e;omega)))) ?_;have HC:∀(jump:Option Code) (W3:World),KeepsOthers (W.putObj (w.heap.size+1) (.loop {rec .ready none with state:= .busy})) W3->
     (Instr.endRound (w.heap.size+1) jump).run P W3= .ok (.bool jump.isNone) (W3.putObj (w.heap.size+1) (.loop (rec (if jump.isNone then .ready else .done) jump)))/\
     W3.heap[w.heap.size+1]?=some (.loop {rec .ready none with state:= .busy})/\
     (W3.putObj (w.heap.size+1) (.loop (rec (if jump.isNone then .ready else .done) jump))).heap[w.heap.size+1]?=some (.loop (rec (if jump.isNone then .ready else .done) jump))/\
     (W3.putObj (w.heap.size+1) (.loop (rec (if jump.isNone then .ready else .done) jump))).heap[w.heap.size]?=some (.deferred (some [])):=λjump W3 jS=>by
    have dS:=jS.same _ _ Y8 rfl;have:=run_endRound (P:=P) jump dS;rw[UN] at this⊢;exact⟨this,by rw[UN] at dS;exact dS,World.putObj_heap_same (A7.1 dS).1,(World.putObj_heap_other Ab).trans (jS.same _ _ X6 rfl)⟩
   rintro e a3 W3 hp;cases e with
   |normal=>obtain⟨jS,aMV,tv,hne⟩:=hp;obtain⟨hr,dS,d,uc⟩:=HC none W3 jS;exact⟨_,_,hr,.inl ⟨rfl,⟨hI _ _ _ tv (grownBy_putObj' W3 _ _) (λr e=> .inr (by cases e;omega)),d,uc⟩,(f_.trans aMV).trans (belowK_b (Ag _) W3 _ _ _ Ab dS rfl rfl),hne⟩⟩
   |ret=>obtain⟨jS,tv,he⟩:=hp;obtain⟨hr,dS,d,uc⟩:=HC (some .ret) W3 jS;exact⟨_,_,hr,.inr ⟨rfl,⟨hIx _ _ _ tv (grownBy_putObj' W3 _ _) (λr e=> .inr (by cases e;omega)),d,uc⟩,he⟩⟩
   |exit id=>exact hp.elim
   |goto t=>exact hp.elim
   |panic y=>exact hp.elim
   |outgrown=>exact hp.elim
  .rintro e m ⟨⟨v,rfl⟩,⟨hb,hi,hl,hk⟩|⟨hb,hi,hl,hk⟩⟩;.exact⟨none,_,by have:=run_endLoop (P:=P) hl (by rw[UN];simp);rw[UN] at this;exact this,ic _ _ hb (hI _ _ _ hi (grownBy_putObj' m _ _) (λr e=> .inr (by cases e;omega))) ((World.putObj_heap_other Ab).trans hk) (Ag _)⟩
   .exact⟨some .ret,_,by have:=run_endLoop (P:=P) hl (by rw[UN];simp);rw[UN] at this;exact this,ij _ _ hb (hIx _ _ _ hi (grownBy_putObj' m _ _) (λr e=> .inr (by cases e;omega))) ((World.putObj_heap_other Ab).trans hk) (Ag _)⟩
def CV{W:World}{k j:Nat}{v:Value}(o:Obj)(h:W.cell? ⟨k,j,none⟩=some v):(W.alloc o).cell? ⟨k,j,none⟩=some v:=by rw[World.cell?_alloc_past _ _ _ (DP h)];exact h
def KW{W:World}{k j:Nat}{v:Value}(o:Obj)(h:W.cell? ⟨k,j,none⟩=some v):(W.alloc o).frozen? ⟨k,j,none⟩=W.frozen? ⟨k,j,none⟩:=
 World.frozen?_alloc_past _ _ _ (DP h)
def LY(W:World)(v:Value)(t:TypeId):(W.alloc (.cells #[v] t)).cell? ⟨W.heap.size,0,none⟩=some v/\(W.alloc (.cells #[v] t)).frozen? ⟨W.heap.size,0,none⟩=false:=by
 have h:(W.alloc (.cells #[v] t)).heap[W.heap.size]?=some (.cells #[v] t (0,0)):=World.alloc_heap_new W _;constructor;.simp only[World.cell?,h];rfl
 .simp only[World.frozen?,h];rfl
def Wz{A B:World}{row:Option Nat}{k:Nat}{v:Value}(h:A.cell? ⟨k,0,none⟩=some v)(hg:A.grownBy B row)(hr:∀r,row=some r->k≠r):
  B.cell? ⟨k,0,none⟩=some v/\B.frozen? ⟨k,0,none⟩=A.frozen? ⟨k,0,none⟩:=by
 have hb:B.heap[k]?=A.heap[k]?:=hg.block k (DP h) (λe=>hr k e.symm rfl);exact⟨by rw[CS hb];exact h,by simp only[World.frozen?,hb]⟩
def aAF(ga gn off n cap:Nat)(cs:List Aa)(up x:Int)(w:World)(o:ga<w.heap.size)(Ķ:gn<w.heap.size)(O8:n<=cap)(hm:cap<=maxLen)
  (hc:w.cell? ⟨ga,0,none⟩=some (.slice (some ⟨gn,off,none⟩) n cap))
  (hx:∀(h:Int) (k:Nat) (v:Int),1<=h->h<=n->(k=1\/k=12)->GP cs off h k=some v->w.cell? ⟨gn,off+(h.toNat-1)*13+k,none⟩=some (.int .i64 v))
  (b:Bool) (hcl:LG cs off n up (n+1) x=some b) (OO:1<=up) (Jj:up<=n) (OR:1<=x) (aL:x<=n):
  Calls Proofs.Tryz.prog 237 #[.pointer (some ⟨ga,0,none⟩),.int .i64 up,.int .i64 x] w λe w'=>e= .returned (.bool b)/\Below w.heap.size w w':=by
 refine(callsIn_wide (n:=5)).1 ?_;refine callsIn_of_wp_marks Proofs.Tryz.func237 rfl trivial ?_;simp only[Proofs.Tryz.ntmps237,Cb,Be,B1,Nat.reduceAdd,Nat.reduceSub,Km,Kn,MB,KO,BV,CK];have s:((w.alloc (.cells #[.int .i64 up] 3)).alloc (.cells #[.bool false] 4)).cell? ⟨ga,0,none⟩=some (.slice (some ⟨gn,off,none⟩) n cap):=by rw[World.cell?_alloc_past _ _ _ Eg,World.cell?_alloc_past _ _ _ o];exact hc
 have z:=LY w (.int .i64 up) 3;have d:=LY (w.alloc (.cells #[.int .i64 up] 3)) (.bool false) 4;have u:=LY ((w.alloc (.cells #[.int .i64 up] 3)).alloc (.cells #[.bool false] 4)) (.pointer (some ⟨ga,0,none⟩)) 60;have i:=LY (((w.alloc (.cells #[.int .i64 up] 3)).alloc (.cells #[.bool false] 4)).alloc (.cells #[.pointer (some ⟨ga,0,none⟩)] 60)) (.int .i64 x) 3;have t:=LY ((((w.alloc (.cells #[.int .i64 up] 3)).alloc (.cells #[.bool false] 4)).alloc (.cells #[.pointer (some ⟨ga,0,none⟩)] 60)).alloc (.cells #[.int .i64 x] 3)) (.bool true) 4;simp only[World.size_alloc] at d u i t;have H:decide (1<=up/\up<=n)=true:=AI ⟨OO,Jj⟩;have G:decide (1<=x/\x<=n)=true:=AI ⟨OR,aL⟩;gi_wp2
 refine⟨trivial,(callsIn_wide.2 (Y9 ga _ n cap up _ s)).mono ?_⟩;rintro e w' ⟨rfl,rfl⟩;rw[H];gi_wp2
 refine⟨trivial,(callsIn_wide.2 (Y9 ga _ n cap x _ s)).mono ?_⟩;rintro e w' ⟨rfl,rfl⟩;rw[G];gi_wp2
 refine⟨trivial,(callsIn_wide.2 (aFY ga x _)).mono ?_⟩;rintro e w' ⟨rfl,rfl⟩;gi_wp2
 refine aK (gf:=415) (lb:=#[.pointer (some ⟨w.heap.size+1+1+1,0,none⟩),.pointer (some ⟨w.heap.size+1+1,0,none⟩),.pointer (some ⟨w.heap.size+1+1+1+1,0,none⟩)]) (w.heap.size+1+1+1) b up rfl (Go.Proofs.enters_of Proofs.Tryz.func415 AH rfl) AK
  ?aAE rfl
  (λW=>Below w.heap.size w W/\W.cell? ⟨w.heap.size,0,none⟩=some (.int .i64 up)/\W.cell? ⟨w.heap.size+1,0,none⟩=some (.bool false)/\W.frozen? ⟨w.heap.size+1,0,none⟩=false)
  (λW=>Below w.heap.size w W/\W.cell? ⟨w.heap.size+1,0,none⟩=some (.bool true)) ?hI ?hIx ?h0
  (λy=>{tmps:=#[.pointer (some ⟨ga,0,none⟩),.int .i64 up,.int .i64 x,undef,.pointer (some ⟨w.heap.size,0,none⟩),undef,.pointer (some ⟨w.heap.size+1,0,none⟩),.int .i64 y,.pointer (some ⟨ga,0,none⟩),.int .i64 up,.bool true,.bool false,.bool false,.pointer (some ⟨ga,0,none⟩),.int .i64 x,.bool true,.bool false,.bool false,.pointer (some ⟨ga,0,none⟩),.int .i64 x,.func (.func 415) #[] #[.pointer (some ⟨w.heap.size+1+1+1,0,none⟩),.pointer (some ⟨w.heap.size+1+1,0,none⟩),.pointer (some ⟨w.heap.size+1+1+1+1,0,none⟩)],.int .i64 y,undef,undef,undef],defers:=[]})
  ?hassign ?Wu ?ic ?ij
 case hI=>rintro A B row ⟨h1,h2,c,q⟩ hg hr;have JQ:=DP c;have C:=Wz h2 hg (λr e=>by rcases hr r e with rfl|h<;>simp at* <;>omega);have m:=Wz c hg (λr e=>by rcases hr r e with rfl|h<;>simp at* <;>omega);exact⟨h1.grown hg Ab (λk e=>by rcases hr k e with rfl|h<;>simp at* <;>omega),C.1,m.1,m.2.trans q⟩
 case hIx=>rintro A B row ⟨h1,c⟩ hg hr;have JQ:=DP c;have m:=Wz c hg (λr e=>by rcases hr r e with rfl|h<;>simp at* <;>omega);exact⟨h1.grown hg Ab (λk e=>by rcases hr k e with rfl|h<;>simp at* <;>omega),m.1⟩
 case h0=>
  refine⟨(((((Below.refl _ w).alloc (Ag _) _).alloc AK _).alloc Eg _).alloc Eg _).alloc Eg _,?_,?_,?_⟩;.exact CV _ (CV _ (CV _ (CV _ z.1)))
  .exact CV _ (CV _ (CV _ d.1))
  .rw[KW _ (CV _ (CV _ d.1)),KW _ (CV _ d.1),KW _ d.1];exact d.2
 case aAE=>
  intro l J I W hW F E hj;have kk:∀{k j:Nat} {v:Value},(((((w.alloc (.cells #[.int .i64 up] 3)).alloc (.cells #[.bool false] 4)).alloc (.cells #[.pointer (some ⟨ga,0,none⟩)] 60)).alloc (.cells #[.int .i64 x] 3)).alloc (.cells #[.bool true] 4)).cell? ⟨k,j,none⟩=some v->W.cell? ⟨k,j,none⟩=some v:=
   λ{k j v} h=>by rw[CS (hW.block k (DP h))];exact h
  have hs:fN (w.heap.size+1+1) (w.heap.size+1+1+1+1) ga gn off n cap cs W:=
   ⟨kk (CV _ (CV _ u.1)),kk t.1,kk (CV _ (CV _ (CV _ s))),λh k v h1 h2 c q=>kk (CV _ (CV _ (CV _ (CV _ (CV _ (hx h k v h1 h2 c q))))))⟩
  refine aFZ 4 l (w.heap.size+1+1+1) (w.heap.size+1+1) (w.heap.size+1+1+1+1) _ ga gn off n cap cs up J I F E ?_ AK O8 hm W x hs (kk (CV _ i.1)) ?_ (n+1) b hcl hj;.rintro b (rfl|rfl|rfl|rfl)<;>simp<;>omega
  .have:W.frozen? ⟨w.heap.size+1+1+1,0,none⟩=_:=World.frozen?_of_block (hW.block (w.heap.size+1+1+1) AK);rw[this,KW _ i.1];exact i.2
 case hassign=>
  intro l y W K f;have aMX:=Oper.semAt_some l;gi_wp2
  exact f
 case Wu=>
  rintro l y W ⟨hb,Rm,IS,az⟩;have aMX:=Oper.semAt_some l;gi_wp2
  .rename_i he;obtain rfl:y=up:=eq_of_beq he;exact⟨KeepsOthers.setCell _ _ _,⟨hb.setCell (Fj _) _,World.cell?_setCell_same _ _ _ IS⟩,rfl⟩
  .rename_i he;exact⟨KeepsOthers.refl _,Below.refl _ _,⟨hb,Rm,IS,az⟩,λe=>by subst e;simp at he⟩
 case ic=>
  rintro D W rfl ⟨hb,Rm,IS,az⟩ f p;gi_wp2
  have g:=(KeepsOthers.setCell W ⟨w.heap.size+1,0,none⟩ (.bool false)).same D _ f rfl;have a:=cell_kept (World.cell?_setCell_same W ⟨w.heap.size+1,0,none⟩ (.bool false) IS) (grownBy_putObj' _ D (.deferred none)) (λr e=>by cases e;exact⟨_,g,rfl⟩);refine⟨AK,.inl ⟨_,_,rfl,run_takeDeferred g,?_⟩⟩;refine⟨.bool false,?_,rfl,(hb.setCell (Fj _) _).grown (grownBy_putObj' _ D _) (by have:=DP IS;simp;omega) (λk e=>by cases e;simp at p;omega)⟩;simp[results,Proofs.Tryz.f237,go_sem,a]
 case ij=>
  rintro D W rfl ⟨hb,IS⟩ f p;gi_wp2
  have a:=cell_kept IS (grownBy_putObj' _ D (.deferred none)) (λr e=>by cases e;exact⟨_,f,rfl⟩);refine⟨AK,.inl ⟨_,_,rfl,run_takeDeferred f,?_⟩⟩;refine⟨.bool true,?_,rfl,hb.grown (grownBy_putObj' _ D _) (by have:=DP IS;omega) (λk e=>by cases e;simp at p;omega)⟩;simp[results,Proofs.Tryz.f237,go_sem,a]
def WA(ga:Nat)(p:Option Addr)(n cap:Nat)(up x:Int)(w:World)(hc:w.cell? ⟨ga,0,none⟩=some (.slice p n cap))(ho:¬(1<=up/\up<=n/\1<=x/\x<=n)):
  Calls Proofs.Tryz.prog 237 #[.pointer (some ⟨ga,0,none⟩),.int .i64 up,.int .i64 x] w λe w'=>e= .returned (.bool false)/\Below w.heap.size w w':=by
 have c:((w.alloc (.cells #[.int .i64 up] 3)).alloc (.cells #[.bool false] 4)).cell? ⟨ga,0,none⟩=some (.slice p n cap):=CV _ (CV _ hc);have a:=LY (w.alloc (.cells #[.int .i64 up] 3)) (.bool false) 4;simp only[World.size_alloc] at a;have hb:Below w.heap.size w ((w.alloc (.cells #[.int .i64 up] 3)).alloc (.cells #[.bool false] 4)):=((Below.refl _ w).alloc (Ag _) _).alloc AK _;refine(callsIn_wide (n:=5)).1 ?_;refine callsIn_of_wp Proofs.Tryz.func237 rfl trivial ?_ rfl;simp only[Proofs.Tryz.ntmps237,Cb,Be,B1,Nat.reduceAdd,Nat.reduceSub,Km,Kn,MB,KO,BV,CK];by_cases h1:1<=up/\up<=n
 .have b:decide (1<=up/\up<=n)=true:=AI h1;have d:decide (1<=x/\x<=n)=false:=AG λh2=>ho ⟨h1.1,h1.2,h2.1,h2.2⟩;gi_wp2
  refine⟨trivial,(callsIn_wide.2 (Y9 ga _ n cap up _ c)).mono ?_⟩;rintro e w' ⟨rfl,rfl⟩;rw[b];gi_wp2
  refine⟨trivial,(callsIn_wide.2 (Y9 ga _ n cap x _ c)).mono ?_⟩;rintro e w' ⟨rfl,rfl⟩;rw[d];gi_wp2
  refine bodyPost_ret (v:= .bool false) ?_ rfl ⟨rfl,hb⟩;simp[results,Proofs.Tryz.f237,go_sem,a.1]
 .have b:decide (1<=up/\up<=n)=false:=AG h1;gi_wp2
  refine⟨trivial,(callsIn_wide.2 (Y9 ga _ n cap up _ c)).mono ?_⟩;rintro e w' ⟨rfl,rfl⟩;rw[b];gi_wp2
  refine⟨trivial,?_⟩;gi_wp2
  refine bodyPost_ret (v:= .bool false) ?_ rfl ⟨rfl,hb⟩;simp[results,Proofs.Tryz.f237,go_sem,a.1]
section
variable{h:Ah}
def aM{cs:List Aa}{off:Nat}{x:Int}{k:Nat}{v:Int}(e:GP cs off x k=some v):cs[off+(x.toNat-1)*13+k]?=some (.int .i64 v):=by
 unfold GP at e;split at e;.rename_i a;cases e;exact a
 .cases e
def ud(n:Nat)(args:List Aa)(r:Aa)(h':Ah)(A3:IT.step (Cd cx) (IT.run (Cd cx) n) (Nr args) h=some (.ret,[r],h')):
  (∃fn c,cx.P.funcs[EE 237]?=some fn/\(fn.name== "runtime.NumGoroutine")=false/\fn.body=some c)/\
  ∀(U:Gh) (w:World) (cargs:Array Value),Hj U h w->(∀g cs,cx.GY g=some cs->C4 U cs g 0)->Bi U args cargs.toList->
   Calls cx.P (EE 237) cargs w λe w'=>match e with
    | .returned v=>∃d,Hj d h' w'/\K6 U w d w'/\BU d r v/\(cx.Jb 237=true->∃s c,IQ d w.heap.size w' s c v r)
    |_=>False:=by
 refine⟨⟨_,_,Proofs.Tryz.func237,rfl,rfl⟩,λU w cargs hi hg ha=>?_⟩;simp only[Nr,IT.step,E5] at A3;cases e0:Nq h args with
 |none=>simp[e0] at A3
 |some E=>
 obtain⟨h1,G⟩:=E;simp only[e0] at A3;cases A3;have HC:∀(b:Bool) (cs:Array Value),h'=h->r= .bool b->Calls Proofs.Tryz.prog 237 cs w (λe w'=>e= .returned (.bool b)/\Below w.heap.size w w')->
   Calls cx.P (EE 237) cs w λe w'=>match e with
    | .returned v=>∃d,Hj d h' w'/\K6 U w d w'/\BU d r v/\(cx.Jb 237=true->∃s c,IQ d w.heap.size w' s c v r)
    |_=>False:=by
  rintro b cs rfl rfl hc;refine hc.mono λe w' he=>?_;obtain⟨rfl,hb⟩:=he;obtain⟨Vl,OP⟩:=hi.Lb hb;exact⟨U,Vl,OP,rfl,λe=>by cases e⟩
 unfold Nq at e0;split at e0
 .rename_i id up x;obtain⟨v0,us,Ĩ,⟨g,hm,rfl⟩,F,m,rfl,rfl,v2,kE,rfl,rfl,hnil⟩:=ha;cases hnil;have a:cargs=#[.pointer (some ⟨g,0,none⟩),.int .i64 up,.int .i64 x]:=by apply HA;simpa using Ĩ
  subst a;split at e0;.rename_i l hc;cases e0;obtain⟨_,y,hy,p⟩:=hi.RT hc hm (j:=0) rfl;cases p;exact HC false _ rfl rfl (WA g none 0 0 up x w hy Ab)
  .rename_i C off len l hc;split at e0
   .rename_i cs hcs;split at e0
    .rename_i hl;obtain⟨_,y,hy,gn,cap,į,rfl,A,⟨H,u⟩,q⟩:=hi.RT hc hm (j:=0) rfl;have f:g<w.heap.size:=DP hy;have Ķ:gn<w.heap.size:=by obtain⟨⟨us,e,fr,B,I⟩,_⟩:=hi.sz gn _ q;exact(A7.1 B).1
     split at e0
     .rename_i hr;cases i:LG cs off len up (len+1) x with
      |none=>simp[i] at e0
      |some b=>simp only[i,Cc,BE,Ii] at e0;obtain⟨rfl,rfl⟩:=e0;refine HC b _ rfl rfl (aAF g gn off len cap cs up x w f Ķ A u hy (λt k v h1 h2 J D=>?_) b i hr.1 hr.2.1 hr.2.2.1 hr.2.2.2);obtain⟨_,z,hz,o⟩:=hi.RT hcs į (aM D);cases o;exact hz
     .rename_i hr;cases e0;exact HC false _ rfl rfl (WA g _ len cap up x w hy hr)
    .cases e0
   .cases e0
  .cases e0
 .cases e0
end
def OF{T e:TypeId}{B b:Nat}{bs:List Value}{W W':World}(h:Lib.IsBuilder T e B b bs W)(hb:Below W.heap.size W W'):Lib.IsBuilder T e B b bs W':=by
 have key:∀p,Lib.BuilderAt T e B b p bs W->Lib.BuilderAt T e B b p bs W':=λp ⟨hB,v,rj,FG,hne⟩=>by refine⟨hB,v,(hb.block b (A7.1 rj).1).trans rj,?_,hne⟩;exact FG.kept (row:=none) ⟨hb.os,hb.tape,hb.output,hb.size,λk hk _=>hb.block k hk⟩ (Classical.em _)
 exact h.imp (key _) (key _)
def KG(a b:List UInt8):Lib.byteCells (a++b)=Lib.byteCells a++Lib.byteCells b:=by simp[Lib.byteCells]
def byteCells_length(a:List UInt8):(Lib.byteCells a).length=a.length:=by simp[Lib.byteCells]
def lR(d:Nat):Lib.repeatL [32,32] d=List.replicate (2*d) 32:=by
 induction d with
 |zero=>rfl
 |succ d ih=>rw[Lib.repeatL,ih,(Ab:2*(d+1)=2*d+1+1),KN,KN];rfl
def lS:∀a:Aa,a.ME=true->a.still=true
 | .bool _,_=>rfl
 | .int _ _,_=>rfl
 | .str _,_=>rfl
 |a,h=>by cases a<;>first|rfl|simp[Aa.ME] at h
def T5:∀l:List Aa,l.all Aa.ME=true->JD l=true
 |[],_=>rfl
 |a::l,h=>by simp only[ZO,Bx] at h;simp only[JD,Bx];exact⟨lS a h.1,T5 l h.2⟩
section
variable{U:Gh}{h:Ah}{w:World}
def fO(hi:Hj U h w){id g:Nat}{cs:List Aa}(hc:h[id]?=some (.cells cs))(hm:U.mu id=some g):∀(n o:Nat),o+n<=cs.length->MN (Cz cs 1 o n)=true->
  (Cz cs 1 o n).length=n/\E7 (Gr w) (Cz cs 1 o n) 1 g o
 |0,o,_,_=>⟨rfl,trivial⟩
 |n+1,o,hl,hs=>by
  have hlt:o<cs.length:=Ab;have a:(cs.drop o).take 1=[cs[o]]:=by rw[AF hlt];rfl
  have Vh:JD ((cs.drop o).take 1)=true/\MN (Cz cs 1 (o+1) n)=true:=by simpa only[Cz,MN,Bx] using hs
  obtain⟨p,q⟩:=fO hi hc hm n (o+1) Ab Vh.2;rw[a] at Vh;have HT:cs[o].still=true:=by simpa[JD] using Vh.1
  obtain⟨u,hu,h1,hr⟩:=Nt hi hc hm (Ai hlt);refine⟨by simp[Cz,p],?_⟩;simp only[Cz,a];exact⟨rfl,⟨⟨u,S7 hu h1,BU.mem hi _ _ HT hr⟩,trivial⟩,q⟩
def aN(w:World)(b o:Nat)(A8:List (List Aa)):Prop:=
 ∃v,w.cell? ⟨b,o,none⟩=some v/\((v= .slice none 0 0/\A8=[])\/
  (∃a c cap,v= .slice (some ⟨a,c,none⟩) A8.length cap/\A8.length<=cap/\cap<=maxLen/\a<w.heap.size/\E7 (Gr w) A8 1 a c))
def ir(hi:Hj U h w){id g:Nat}(hm:U.mu id=some g){x:Int}{h1:Ah}{r:Aa}(e:xX h [.ptr (some (id,0)),.int .i64 x]=some (h1,r)):
  h1=h/\∃gn off n cap row c A8,r= .tuple [.Cq row,.int .i64 c,.sl 1 A8]/\g<w.heap.size/\gn<w.heap.size/\w.cell? ⟨g,0,none⟩=some (.slice (some ⟨gn,off,none⟩) n cap)/\n<=cap/\cap<=maxLen/\
   1<=x/\x<=n/\C4 (Gr w) row gn (off+(x.toNat-1)*13)/\w.cell? ⟨gn,off+(x.toNat-1)*13+11,none⟩=some (.int .i64 c)/\aN w gn (off+(x.toNat-1)*13+2) A8:=by
 unfold xX at e;split at e
 .rename_i FO x' Kp;cases Kp;split at e
  .rename_i X off n l hc;split at e
   .rename_i cs hcs;split at e
    .rename_i hx;split at e
     .rename_i A z G v t s q p o k UL c Ĳ hrow;split at e
      .rename_i HT;simp only[JD,Bx,Mx] at HT;obtain⟨s0,R,Q,P,O,N,M,L,K,C,B⟩:=HT;obtain⟨_,y,hy,gn,cap,į,rfl,J,⟨Z,I⟩,V⟩:=hi.RT hc hm (j:=0) rfl;have Ķ:gn<w.heap.size:=by obtain⟨⟨us,e,fr,D,W⟩,_⟩:=hi.sz gn _ V;exact(A7.1 D).1
       have get:∀(j:Nat) (a:Aa),j<13->[A,z,G,v,t,s,q,p,o,k,UL,.int .i64 c,Ĳ][j]?=some a->cs[off+(x.toNat-1)*13+j]?=some a:=λj a hj ha=>by rw[<-hrow,CZ hj,Ct] at ha;exact ha
       have key:∀(j:Nat) (a:Aa),j<13->[A,z,G,v,t,s,q,p,o,k,UL,.int .i64 c,Ĳ][j]?=some a->a.still=true->∃u,(Gr w).Io gn (off+(x.toNat-1)*13+j)=some u/\BU (Gr w) a u:=λj a hj ha hs=>by obtain⟨u,hu,ho,hr⟩:=Nt hi hcs į (get j a hj ha);exact⟨u,S7 hu ho,BU.mem hi _ _ hs hr⟩
       have WB:w.cell? ⟨gn,off+(x.toNat-1)*13+11,none⟩=some (.int .i64 c):=by obtain⟨u,hu,_,hr⟩:=Nt hi hcs į (get 11 _ Ab rfl);cases hr;exact hu
       obtain⟨Y,Jj,X3,LL⟩:=Nt hi hcs į (get 2 G Ab rfl);have mk:∀(E:Aa),(∃u,(Gr w).Io gn (off+(x.toNat-1)*13+2)=some u/\BU (Gr w) E u)->C4 (Gr w) [A,z,E,v,t,s,q,p,o,k,UL,.int .i64 c,Ĳ] gn (off+(x.toNat-1)*13):=λE h2=>⟨key 0 A Ab rfl s0,key 1 z Ab rfl R,h2,key 3 v Ab rfl Q,key 4 t Ab rfl P,key 5 s Ab rfl O,key 6 q Ab rfl N,key 7 p Ab rfl M,key 8 o Ab rfl L,key 9 k Ab rfl K,key 10 UL Ab rfl C,key 11 _ Ab rfl rfl,key 12 Ĳ Ab rfl B,trivial⟩
       have hg:=DP hy;split at e;.cases e;cases LL;exact⟨rfl,gn,off,n,cap,_,c,[],rfl,hg,Ķ,hy,J,I,hx.1,hx.2.1,mk _ ⟨_,S7 Jj X3,rfl⟩,WB,_,Jj,.inl ⟨rfl,rfl⟩⟩
       .rename_i MO f m;split at e
        .rename_i ks so;split at e
         .rename_i hk;cases e;obtain⟨i,b,ķ,rfl,H,⟨r2,T⟩,S⟩:=LL;obtain⟨d,t2⟩:=fO hi so ķ m f Ab hk.2;have F:i<w.heap.size:=by obtain⟨⟨us,e,fr,D,W⟩,_⟩:=hi.sz i _ S;exact(A7.1 D).1
          refine⟨rfl,gn,off,n,cap,_,c,Cz ks 1 f m,rfl,hg,Ķ,hy,J,I,hx.1,hx.2.1,mk _ ⟨_,S7 Jj X3,⟨i,f,none⟩,b,by rw[d],by rw[d];exact H,.inl rfl,t2⟩,WB,_,Jj,.inr ⟨i,f,b,by rw[d],by rw[d];exact H,T,F,t2⟩⟩
         .cases e
        .cases e
       .cases e
      .cases e
     .cases e
    .cases e
   .cases e
  .cases e
 .cases e
def ue{n:Nat}(hs:Fg cx (IT.run (Cd cx) n))(hi:Hj U h w)(hg:∀g cs,cx.GY g=some cs->C4 U cs g 0){row:List Aa}{s:Aq}{h1:Ah}(e:IT.run (Cd cx) n (Cd cx 156 [.Cq row]) []=some (.ret,[.str s],h1))
  {W:World} (hb:Below w.heap.size w W) {gn o:Nat} (hr:C4 (Gr w) row gn o):
  Calls Proofs.Tryz.prog 156 #[.pointer (some ⟨gn,o,none⟩)] W λe W'=>e= .returned (.string ⟨⟨s⟩⟩)/\Below W.heap.size W W':=by
 refine((hs.2 156 _ _ _ _ e).2 (Gr W) W #[.pointer (some ⟨gn,o,none⟩)] (gw W) (λg cs ĥ=>C4.mono (fJ hb) cs g 0 (C4.mem hi cs g 0 (T5 cs (hs.1.1 g cs ĥ)) (hg g cs ĥ)))
  ⟨_,_,rfl,⟨gn,o,rfl,C4.mono (fJ hb) row gn o hr⟩,rfl⟩).mono λe W' he=>?_
 cases e with
 |returned v=>obtain⟨a,_,ha,hv,_⟩:=he;cases hv;exact⟨rfl,ha.os,ha.tape,ha.output,ha.size,λk hk=>(ha.NX k hk (λid=>by simp[Gr])).1⟩
 |_=>exact he.elim
end
def uf{w:World}{b o:Nat}{A8:List (List Aa)}(h:aN w b o A8):∃p cap,w.cell? ⟨b,o,none⟩=some (.slice p A8.length cap)/\A8.length<=cap/\cap<=maxLen/\
  ∀(i:Nat) (y:Int),A8[i]?=some [.int .i64 y]->∃a c,p=some ⟨a,c,none⟩/\a<w.heap.size/\w.cell? ⟨a,c+i,none⟩=some (.int .i64 y):=by
 obtain⟨v,hv,⟨rfl,rfl⟩|⟨a,c,cap,rfl,h1,h2,e,d⟩⟩:=h;.exact⟨none,0,hv,Ag _,A5,λi y hi=>by simp at hi⟩
 .refine⟨_,cap,hv,h1,h2,λi y hi=>⟨a,c,rfl,e,?_⟩⟩;obtain⟨_,⟨u,hu,hr⟩,_⟩:=E7.get d hi;cases hr;have:=hu;simp only[Gr,Ql] at this;simpa using this.1
def fP(l:List UInt8):Lib.strCells ⟨l.toArray⟩=Lib.byteCells l:=by simp[Lib.strCells,Lib.byteCells]
def aO(l:List UInt8):Lib.strCells ⟨⟨l⟩⟩=Lib.byteCells l:=by simp[Lib.strCells,Lib.byteCells]
def lT(i n:Nat)(h:i<n)(hn:n<=9223372036854775807):wrap64 ((i:Int)+1)=((i+1:Nat):Int):=by rw[Go.IntWalk.wrap64_in _ ⟨Ab,Ab⟩];omega
def Za(d:Nat)(h:d<=1000):wrap64 ((d:Int)+1)=((d+1:Nat):Int):=by rw[Go.IntWalk.wrap64_in _ ⟨Ab,Ab⟩];omega
abbrev bg(g:Nat)(w0:World)(x:Int)(d:Nat)(DX Q0:Aq):Prop:=
 ∀(B b:Nat) (W:World),w0.heap.size<=B->B<=W.heap.size->Below w0.heap.size w0 W->Lib.IsBuilder 99 5 B b (Lib.byteCells DX) W->
  Calls Proofs.Tryz.prog 55 #[.pointer (some ⟨g,0,none⟩),.pointer (some ⟨b,0,none⟩),.int .i64 x,.int .i64 d] W λe W'=>(∃v,e= .returned v)/\Lib.IsBuilder 99 5 B b (Lib.byteCells Q0) W'/\Below B W W'
def yC{p:Prop}(h:p):Hid p:=h
def Mc{w0 W':World}{k j:Nat}{v:Value}(hb:Below w0.heap.size w0 W')(h:w0.cell? ⟨k,j,none⟩=some v):W'.cell? ⟨k,j,none⟩=some v:=by rw[CS (hb.block k (DP h))];exact h
def lU:Code->Code
 | .seq _ c=>lU c
 | .block _ c=>c
 |c=>c
noncomputable def iu:Code:=match Proofs.Tryz.f55.body with
 |some c=>lU c
 |none=> .skip
def iv{w0 W W6:World}{g B b d a:Nat}{p:Option Addr}{A8:List (List Aa)}(hB:w0.heap.size<=B)(h:B<=W.heap.size)(hb:Below w0.heap.size w0 W)(hd:d<=1000)
  (X6:A8.length<=a) (jS:a<=maxLen) (uc:∀(i:Nat) (y:Int),A8[i]?=some [.int .i64 y]->∃l ko,p=some ⟨l,ko,none⟩/\l<w0.heap.size/\w0.cell? ⟨l,ko+i,none⟩=some (.int .i64 y))
  (f:Nat->Aq) (hf:∀i,i<A8.length->∃y,A8[i]?=some [.int .i64 y]/\bg g w0 y (d+1) (f i) (f (i+1))) (j:Below B W W6) (l6:Lib.IsBuilder 99 5 B b (Lib.byteCells (f 0)) W6)
  (z2 z4 z5 z6 z7 z8 z9 z10 z11 z12 z13 z14 Z z16 Y X V z20 U z22 T S R Q P O N M L K J I H G z37 F E D C A z x w u t z51 s z53 r q o n m:Value):
  iu.wpIn Fence.wide 5 Proofs.Tryz.prog (Exit.inBlock 0<|bodyPost Proofs.Tryz.prog Proofs.Tryz.f55 λe W'=>(∃v,e= .returned v)/\Lib.IsBuilder 99 5 B b (Lib.byteCells (f A8.length)) W'/\Below B W W')
   {tmps:=#[.pointer (some ⟨g,0,none⟩),.pointer (some ⟨b,0,none⟩),z2,.int .i64 d,z4,z5,z6,z7,z8,z9,z10,z11,z12,z13,z14,Z,z16,Y,X,V,z20,U,z22,T,S,R,Q,P,O,N,M,L,K,J,I,H,G,z37,F,E,D,C,A,z,x,w,.slice p A8.length a,.int .i64 A8.length,.int .i64 0,u,t,z51,s,z53,r,q,o,n,m],defers:=[]} W6:=by
 simp only[iu,lU,Proofs.Tryz.f55];gi_loopg [48] A8.length (λk v wr=>∃i,i<=A8.length/\k=A8.length-i/\v= .int .i64 (i:Nat)/\Below B W wr/\Lib.IsBuilder 99 5 B b (Lib.byteCells (f i)) wr)
 case atStart=>exact⟨0,AU _,rfl,rfl,j,l6⟩
 case round=>
  obtain⟨i,hi,rfl,rfl,bbi,li⟩:=hrel;by_cases hlt:i<A8.length
  .obtain⟨y,hy,ĸ⟩:=hf i hlt;obtain⟨l,ko,rfl,hgk,JP⟩:=uc i y hy;have c:Below w0.heap.size w0 wr:=hb.trans (bbi.mono hB);have ci:=Mc c JP;have aTT:(i:Int)<(A8.length:Int):=by exact_mod_cast hlt
   have hwi:=lT i _ hlt (Bu X6 jS);have hwd:=Za d hd;have Vk:=ĸ B b _ hB (Bu h bbi.size) c li;clear ĸ hf uc X6 jS c li l6 j JP hy hgk hB h hb;rw[show((d+1:Nat):Int)=(d:Int)+1 from rfl] at Vk;gi_wp2
   refine⟨trivial,(callsIn_wide.2 Vk).mono ?_⟩;rintro e W7 ⟨⟨v,rfl⟩,l7,b7⟩;gi_wp2
   gi_roundg (A8.length-(i+1))
   case measure=>exact Nat.sub_lt_sub_left hlt (Na i)
   case rel=>refine⟨i+1,hlt,rfl,?_,bbi.trans b7,l7⟩;first|rfl|exact Ce (Value.int .i64) hwi
  .obtain rfl:i=A8.length:=Nat.le_antisymm hi (Nat.le_of_not_lt hlt);gi_wp2
   go_end0
   exact⟨⟨_,rfl⟩,li,bbi⟩
def aAH{w0:World}{g gn off n cap:Nat}{c x:Int}{A8:List (List Aa)}(T:g<w0.heap.size)(Ķ:gn<w0.heap.size)(hc:w0.cell? ⟨g,0,none⟩=some (.slice (some ⟨gn,off,none⟩) n cap))(O8:n<=cap)(hm:cap<=maxLen)
  (OR:1<=x) (aL:x<=n) (Zb:w0.cell? ⟨gn,off+(x.toNat-1)*13+11,none⟩=some (.int .i64 c)) (hk:aN w0 gn (off+(x.toNat-1)*13+2) A8)
  {d:Nat} (hd:d<=1000) {DX h s:Aq}
  (qG:∀W,Below w0.heap.size w0 W->Calls Proofs.Tryz.prog 156 #[.pointer (some ⟨gn,off+(x.toNat-1)*13,none⟩)] W λe W'=>e= .returned (.string ⟨⟨s⟩⟩)/\Below W.heap.size W W')
  (hlen:(DX++List.replicate (2*d) 32++s++[10]).length<=AX)
  (qH:(c=0/\h=DX++List.replicate (2*d) 32++s++[10])\/(c≠0/\bg g w0 c (d+1) (DX++List.replicate (2*d) 32++s++[10]) h))
  (f:Nat->Aq) (jQ:f 0=h) (hf:∀i,i<A8.length->∃y,A8[i]?=some [.int .i64 y]/\bg g w0 y (d+1) (f i) (f (i+1))):
  bg g w0 x d DX (f A8.length):=by
 intro B b W hB a hb F;obtain⟨p,O,Yb,X6,jS,uc⟩:=uf hk;have Ħ:AX=140737488355328:=rfl;simp only[Au,FX,Be,B1] at hlen;have N:2*d<=140737488355328:=by rw[Ħ] at hlen;omega
 have M:(Lib.byteCells DX).length+(⟨(List.replicate (2*d) (32:UInt8)).toArray⟩:ByteArray).size<=140737488355328:=by rw[Ħ] at hlen;rw[byteCells_length];simp only[ByteArray.size,Cb,FX];omega
 have L:(Lib.byteCells (DX++List.replicate (2*d) 32)).length+(⟨⟨s⟩⟩:ByteArray).size<=140737488355328:=by rw[Ħ] at hlen;rw[byteCells_length];simp only[ByteArray.size,Au,FX];show _+s.length<=_;omega
 have K:(Lib.byteCells (DX++List.replicate (2*d) 32++s)).length+1<=140737488355328:=by rw[Ħ] at hlen;rw[byteCells_length];simp only[Au,FX];omega
 have J:d<=9223372036854775807:=Bu hd A5;clear hlen Ħ;have Hline:=yC qG;have m:=yC qH;have R:=yC hf;have u:=yC uc;have z:=yC X6;have w:=yC jS;clear qG qH hf uc hk X6 jS;refine(callsIn_wide (n:=5)).1 ?_;refine callsIn_of_wp Proofs.Tryz.func55 rfl trivial ?_ rfl;simp only[Proofs.Tryz.ntmps55,Cb,Be,B1,Nat.reduceAdd,Nat.reduceSub,Km,Kn,MB,KO,BV,CK];gi_wp2
 refine⟨trivial,(callsIn_wide.2 (aFX g gn off n cap x _ (Mc hb hc) OR aL O8 hm)).mono ?_⟩;rintro e w' ⟨rfl,rfl⟩;gi_wp2
 refine⟨trivial,(callsIn_wide.2 (Proofs.Tryz.strings_Repeat ⟨#[32,32]⟩ d _ J N)).mono ?_⟩;rintro e W1 ⟨rfl,b1⟩;have SP:Below w0.heap.size w0 W1:=hb.trans (b1.mono hb.size);have t:Below B W W1:=b1.mono a;have l1:=OF F b1;have hr:(Lib.repeatL (⟨#[32,32]⟩:ByteArray).data.toList d)=List.replicate (2*d) 32:=lR d;rw[hr];gi_wp2
 refine⟨trivial,(callsIn_wide.2 (Proofs.Tryz.Builder_WriteString B b (Lib.byteCells DX) _ _ l1 M (Bu a t.size))).mono ?_⟩;rintro e X ⟨rfl,D,b2⟩;rw[fP,<-KG] at D;have r:=t.trans b2;have NT:Below w0.heap.size w0 X:=SP.trans (b2.mono hB);gi_wp2
 refine⟨trivial,(callsIn_wide.2 (Hline.out _ NT)).mono ?_⟩;rintro e W3 ⟨rfl,b3⟩;have bh:Below w0.heap.size w0 W3:=NT.trans (b3.mono NT.size);have q:Below B W W3:=r.trans (b3.mono (Bu a r.size));have l3:=OF (.inr D) b3;gi_wp2
 refine⟨trivial,(callsIn_wide.2 (Proofs.Tryz.Builder_WriteString B b _ _ _ l3 L (Bu a q.size))).mono ?_⟩;rintro e V ⟨rfl,l4,b4⟩;rw[aO,<-KG] at l4;have o:=q.trans b4;have H:Below w0.heap.size w0 V:=bh.trans (b4.mono hB);gi_wp2
 refine⟨trivial,(callsIn_wide.2 (Proofs.Tryz.Builder_WriteByte B b _ 10 _ (.inr l4) K (Bu a o.size))).mono ?_⟩;rintro e Q ⟨rfl,A,b5⟩;have I:Lib.byteCells (DX++List.replicate (2*d) 32++s)++[Value.int .u8 10]=Lib.byteCells (DX++List.replicate (2*d) 32++s++[10]):=by rw[KG (DX++List.replicate (2*d) 32++s) [10]];rfl
 replace A:=I▸A;have l:=o.trans b5;have j:Below w0.heap.size w0 Q:=H.trans (b5.mono hB);have Y:=Mc j Zb;clear O8 hm OR aL hc N M L K J l1 l3 l4 D;rcases m.out with⟨rfl,rfl⟩|⟨E,iw⟩
 .have k:=l;have l6:Lib.IsBuilder 99 5 B b (Lib.byteCells (f 0)) Q:=by rw[jQ];exact .inr A
  have U:=Mc j Yb;gi_wp2
  exact iv hB a hb hd z.out w.out u.out f R.out k l6 _ _ _ _ _ _ _ _ _ _ _ _ _ _ _ _ _ _ _ _ _ _ _ _ _ _ _ _ _ _ _ _ _ _ _ _ _ _ _ _ _ _ _ _ _ _ _ _ _ _ _ _ _
 .have hne:(c != 0)=true:=by simp[E]
  have S:=Za d hd;have aF0:=iw B b _ hB (Bu a l.size) j (.inr A);rw[show((d+1:Nat):Int)=(d:Int)+1 from rfl] at aF0;gi_wp2
  refine⟨trivial,(callsIn_wide.2 aF0).mono ?_⟩;rintro e P ⟨⟨v,rfl⟩,C,b6⟩;have k:=l.trans b6;have G:Below w0.heap.size w0 P:=j.trans (b6.mono hB);have l6:Lib.IsBuilder 99 5 B b (Lib.byteCells (f 0)) P:=by rw[jQ];exact C
  have U:=Mc G Yb;gi_wp2
  exact iv hB a hb hd z.out w.out u.out f R.out k l6 _ _ _ _ _ _ _ _ _ _ _ _ _ _ _ _ _ _ _ _ _ _ _ _ _ _ _ _ _ _ _ _ _ _ _ _ _ _ _ _ _ _ _ _ _ _ _ _ _ _ _ _ _
section
variable{U:Gh}{h:Ah}{w0:World}
abbrev aAJ(fuel d:Nat)(a:Aa):List Aa->(Aq->IT)->Aq->IT:=λMO K DX=>match MO with
 |[.int .i64 y]=>HV 156 a fuel y (d+1) DX K
 |_=> .fail
def fQ{run:IT->Ah->Option J1}{g fuel d:Nat}{a:Aa}(ih:∀(x:Int) (DX:Aq) (k:Aq->IT) (res:J1),IT.step (Cd cx) run (HV 156 a fuel x (d+1) DX k) h=some res->∃Q0,IT.step (Cd cx) run (k Q0) h=some res/\bg g w0 x (d+1) DX Q0):
  ∀(A8:List (List Aa)) (DX:Aq) (k:Aq->IT) (res:J1),IT.step (Cd cx) run (A8.foldr (aAJ fuel d a) k DX) h=some res->
   ∃f:Nat->Aq,f 0=DX/\IT.step (Cd cx) run (k (f A8.length)) h=some res/\∀i,i<A8.length->∃y,A8[i]?=some [.int .i64 y]/\bg g w0 y (d+1) (f i) (f (i+1))
 |[],DX,k,res,e=>⟨λ_=>DX,rfl,e,λi hi=>by simp at hi⟩
 |MO::A8,DX,k,res,e=>by
  simp only[List.foldr_cons] at e;unfold aAJ at e;split at e
  .rename_i y;obtain⟨b,j,l⟩:=ih _ _ _ _ e;obtain⟨f,f0,f1,f2⟩:=fQ ih A8 b k res j;refine⟨λ|0=>DX|i+1=>f i,rfl,f1,λi hi=>?_⟩;cases i with
   |zero=>
    have hc:bg g w0 y (d+1) DX (f 0):=by rw[f0];exact l
    exact⟨y,rfl,hc⟩
   |succ i=>obtain⟨c,p,q⟩:=f2 i (by simpa using hi);exact⟨c,by simpa using p,q⟩
  .cases e
def iy{run:IT->Ah->Option J1}{a:Aa}{x:Int}{d:Nat}{DX:Aq}{k:Aq->IT}{res:J1}(fuel:Nat)(e:IT.step (Cd cx) run (HV 156 a fuel x d DX k) h=some res):∃id,a= .ptr (some (id,0)):=by
 cases fuel with
 |zero=>simp[HV,IT.step] at e
 |succ fuel=>
  simp only[HV,IT.step,E5] at e;cases e0:xX h [a,.int .i64 x] with
  |none=>simp[e0] at e
  |some b=>
   unfold xX at e0;split at e0;.rename_i id x' Kp;cases Kp;exact⟨id,rfl⟩
   .cases e0
def fR{n:Nat}(hs:Fg cx (IT.run (Cd cx) n))(hi:Hj U h w0)(hg:∀g cs,cx.GY g=some cs->C4 U cs g 0){id g:Nat}(hm:U.mu id=some g):
  ∀(fuel:Nat) (x:Int) (d:Nat) (DX:Aq) (k:Aq->IT) (res:J1),d+fuel<=1000->IT.step (Cd cx) (IT.run (Cd cx) n) (HV 156 (.ptr (some (id,0))) fuel x d DX k) h=some res->
   ∃Q0,IT.step (Cd cx) (IT.run (Cd cx) n) (k Q0) h=some res/\bg g w0 x d DX Q0/\∃p cap ln,w0.cell? ⟨g,0,none⟩=some (.slice p ln cap)/\1<=x/\x<=ln
 |0,x,d,DX,k,res,_,e=>by simp[HV,IT.step] at e
 |fuel+1,x,d,DX,k,res,hd,e=>by
  simp only[HV,IT.step,E5] at e;cases e0:xX h [.ptr (some (id,0)),.int .i64 x] with
  |none=>simp[e0] at e
  |some o=>
  obtain⟨h1,r⟩:=o;simp only[e0] at e;obtain⟨l,gn,off,u,cap,row,c,A8,rfl,i,Ķ,hc,O8,dT,OR,aL,hrow,Zb,hk⟩:=ir hi hm e0;simp only[IT.step] at e;rw[l] at e;clear l;cases j:IT.run (Cd cx) n (Cd cx 156 [.Cq row]) [] with
  |none=>simp[j] at e
  |some v=>
  simp only[j] at e;split at e
  .rename_i t ġ Kp;cases Kp;split at e
   .split at e
    .rename_i s Hn;split at e
     .rename_i hlen;have ih:∀(x:Int) (DX:Aq) (k:Aq->IT) (res:J1),IT.step (Cd cx) (IT.run (Cd cx) n) (HV 156 (.ptr (some (id,0))) fuel x (d+1) DX k) h=some res->∃Q0,IT.step (Cd cx) (IT.run (Cd cx) n) (k Q0) h=some res/\bg g w0 x (d+1) DX Q0:=λx DX k res e=>by obtain⟨Q0,p,q,_⟩:=fR hs hi hg hm fuel x (d+1) DX k res Ab e;exact⟨Q0,p,q⟩
      have qG:∀W,Below w0.heap.size w0 W->Calls Proofs.Tryz.prog 156 #[.pointer (some ⟨gn,off+(x.toNat-1)*13,none⟩)] W λe W'=>e= .returned (.string ⟨⟨s⟩⟩)/\Below W.heap.size W W':=
       λW hb=>ue hs hi hg j hb hrow
      have HC:∀a,((c=0/\a=DX++List.replicate (2*d) 32++s++[10])\/(c≠0/\bg g w0 c (d+1) (DX++List.replicate (2*d) 32++s++[10]) a))->
        IT.step (Cd cx) (IT.run (Cd cx) n) (A8.foldr (aAJ fuel d (.ptr (some (id,0)))) k a) h=some res->∃Q0,IT.step (Cd cx) (IT.run (Cd cx) n) (k Q0) h=some res/\bg g w0 x d DX Q0/\∃p cap ln,w0.cell? ⟨g,0,none⟩=some (.slice p ln cap)/\1<=x/\x<=ln:=by
       intro a qH m;obtain⟨f,f0,f1,f2⟩:=fQ ih A8 a k res m;exact⟨f A8.length,f1,aAH i Ķ hc O8 dT OR aL Zb hk Ab qG hlen qH f f0 f2,_,_,_,hc,OR,aL⟩
      split at e;.rename_i b;exact HC _ (.inl ⟨b,rfl⟩) e
      .rename_i b;obtain⟨a,p,q⟩:=ih _ _ _ _ e;exact HC a (.inr ⟨b,q⟩) p
     .cases e
    .cases e
   .cases e
  .cases e
end
def aAK{w0:World}{g ln cap:Nat}{p:Option Addr}{x:Int}{s:Aq}(b:g<w0.heap.size)(hc:w0.cell? ⟨g,0,none⟩=some (.slice p ln cap))(OR:1<=x)(aL:x<=ln)(iw:bg g w0 x 0 [] s):
  Calls Proofs.Tryz.prog 21 #[.pointer (some ⟨g,0,none⟩),.int .i64 x] w0 λe w'=>e= .returned (.string ⟨⟨s⟩⟩)/\Below w0.heap.size w0 w':=by
 have c:decide (1<=x/\x<=ln)=true:=AI ⟨OR,aL⟩;have aM2:(w0.alloc (.cells #[.pointer none,.slice none 0 0] 99)).heap[w0.heap.size]?=some (.cells #[.pointer none,.slice none 0 0] 99 (0,0)):=World.alloc_heap_new w0 _;have SP:Below w0.heap.size w0 (w0.alloc (.cells #[.pointer none,.slice none 0 0] 99)):=(Below.refl _ w0).alloc (Ag _) _;have l1:Lib.IsBuilder 99 5 w0.heap.size w0.heap.size (Lib.byteCells []) (w0.alloc (.cells #[.pointer none,.slice none 0 0] 99)):=
  .inl ⟨Ag _,.slice none 0 0,aM2,World.ownsRow_nil _ _ _ _,by simp[Value.ownBlock]⟩
 have Vk:=iw w0.heap.size w0.heap.size _ (Ag _) AK SP l1;rw[show((0:Nat):Int)=0 from rfl] at Vk;refine(callsIn_wide (n:=5)).1 ?_;refine callsIn_of_wp Proofs.Tryz.func21 rfl trivial ?_ rfl;simp only[Proofs.Tryz.ntmps21,Cb,Be,B1,Nat.reduceAdd,Nat.reduceSub,Km,Kn,MB,KO,BV,CK];gi_wp2
 refine⟨trivial,(callsIn_wide.2 (Y9 g _ ln cap x _ hc)).mono ?_⟩;rintro e w' ⟨rfl,rfl⟩;rw[c];gi_wp2
 refine⟨trivial,(callsIn_wide.2 Vk).mono ?_⟩;rintro e d ⟨⟨v,rfl⟩,a,b2⟩;gi_wp2
 refine⟨trivial,(callsIn_wide.2 (Proofs.Tryz.Builder_String_any w0.heap.size w0.heap.size s _ a (by have:=b2.size;have:=SP.size;omega))).mono ?_⟩;rintro e W3 ⟨rfl,b3⟩;gi_wp2
 refine bodyPost_ret (results_tmp rfl _ _ _) rfl ?_;exact⟨rfl,(SP.trans b2).trans b3⟩
def aAL{h:Ah}(n:Nat)(hs:Fg cx (IT.run (Cd cx) n))(args:List Aa)(r:Aa)(h':Ah)(A3:IT.step (Cd cx) (IT.run (Cd cx) n) (qC 156 args) h=some (.ret,[r],h')):
  (∃fn c,cx.P.funcs[EE 21]?=some fn/\(fn.name== "runtime.NumGoroutine")=false/\fn.body=some c)/\
  ∀(U:Gh) (w:World) (cargs:Array Value),Hj U h w->(∀g cs,cx.GY g=some cs->C4 U cs g 0)->Bi U args cargs.toList->
   Calls cx.P (EE 21) cargs w λe w'=>match e with
    | .returned v=>∃d,Hj d h' w'/\K6 U w d w'/\BU d r v/\(cx.Jb 21=true->∃s c,IQ d w.heap.size w' s c v r)
    |_=>False:=by
 refine⟨⟨_,_,Proofs.Tryz.func21,rfl,rfl⟩,λU w cargs hi hg ha=>?_⟩;have aM3:∃id x,args=[.ptr (some (id,0)),.int .i64 x]:=by
  unfold qC at A3;split at A3;.rename_i a x;obtain⟨id,rfl⟩:=iy _ A3;exact⟨id,x,rfl⟩
  .cases A3
 obtain⟨id,x,rfl⟩:=aM3;obtain⟨v0,us,Ĩ,⟨g,hm,rfl⟩,j,f,rfl,rfl,hnil⟩:=ha;cases hnil;have b:cargs=#[.pointer (some ⟨g,0,none⟩),.int .i64 x]:=by apply HA;simpa using Ĩ
 subst b;simp only[qC] at A3;obtain⟨DX,i,iw,p,cap,ln,hc,OR,aL⟩:=fR hs hi hg hm 100 x 0 [] _ _ Ab A3;cases i;refine(aAK (DP hc) hc OR aL iw).mono λe w' he=>?_;obtain⟨rfl,hb⟩:=he;obtain⟨Vl,OP⟩:=hi.Lb hb;exact⟨U,Vl,OP,rfl,λe=>by cases e⟩
end Go.Am
end
section
namespace Go.Am
open Go
def ug:aC cx:=by
 refine⟨λf hf=>?_,λf p hp n hs args h r h' A3=>?_⟩
 .simp only[cx,aFJ] at hf;split at hf;.exact yB
  .cases hf
 .simp only[cx,ĳ] at hp;split at hp;.cases hp;exact aAL n hs args r h' A3
  .cases hp;exact aAx n args r h' A3
  .cases hp;exact ud n args r h' A3
  .cases hp;exact ub n hs args r h' A3
  .cases hp
end Go.Am
end
