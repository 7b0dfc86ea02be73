/- Lemmas -/
import Derived.Test.YtljddgipdchkiaaGreatDoorB15
import Derived.RangeFuncBox
import Derived.OwnWalkIn
import Derived.TacticsInMore
import Derived.LoopNIn
import Derived.Sort.LoopGhostIn
set_option linter.all false
set_option maxHeartbeats 0
set_option maxRecDepth 100000
section
namespace Go.Am
open Go Go.RowKit Go.Shelf
def Z0(ga:Nat)(p:Option Addr)(n cap:Nat)(x:Int)(w:World)(hc:w.cell? ⟨ga,0,none⟩=some (.slice p n cap)):
  Calls Proofs.Tryz.prog 54 #[.pointer (some ⟨ga,0,none⟩),.int .i64 x] w λe w'=>e= .returned (.bool (decide (1<=x/\x<=n)))/\w=w':=by
 go_enter Proofs.Tryz.func54,Proofs.Tryz.ntmps54
 go_wp2
 all_goals refine bodyPost_ret (results_tmp rfl _ _ _) rfl ?_
 all_goals simp_all
 all_goals omega
def aEH(ga gn off n cap:Nat)(x:Int)(w:World)(hc:w.cell? ⟨ga,0,none⟩=some (.slice (some ⟨gn,off,none⟩) n cap))(h1:1<=x)(h2:x<=n)(Pl:n<=cap)(hm:cap<=maxLen):
  Calls Proofs.Tryz.prog 153 #[.pointer (some ⟨ga,0,none⟩),.int .i64 x] w λe w'=>e= .returned (.pointer (some ⟨gn,off+(x.toNat-1)*13,none⟩))/\w=w':=by
 have hb:maxLen<=9223372036854775807:=AX;have hw:wrap64 (x-1)=x-1:=Go.IntWalk.wrap64_in _ ⟨Ab,Ab⟩;go_enter Proofs.Tryz.func153,Proofs.Tryz.ntmps153
 go_wp2
 all_goals refine bodyPost_ret (results_tmp rfl _ _ _) rfl ?_
 all_goals exact⟨rfl,rfl⟩
def aEI(ga:Nat)(x:Int)(w:World):
  Calls Proofs.Tryz.prog 362 #[.pointer (some ⟨ga,0,none⟩),.int .i64 x,.bool true] w λe w'=>e= .returned (.func (.func 415) #[] #[.pointer (some ⟨w.heap.size+1,0,none⟩),.pointer (some ⟨w.heap.size,0,none⟩),.pointer (some ⟨w.heap.size+1+1,0,none⟩)])/\
   w'=((w.alloc (.cells #[.pointer (some ⟨ga,0,none⟩)] 60)).alloc (.cells #[.int .i64 x] 3)).alloc (.cells #[.bool true] 4):=by
 have a:∀(fn:Fn) (first cap:Array Value) (w:World),(Instr.makeFunc fn first cap).run Proofs.Tryz.prog w= .ok (.func fn first cap) w:=λ_ _ _ _=>rfl;go_enter Proofs.Tryz.func362,Proofs.Tryz.ntmps362
 go_wp2
 go_ret
 exact⟨rfl,rfl⟩
def qX{cs:List Aa}{off n:Nat}{up:Int}{k:Nat}{b:Bool}(h:LM cs off n up k 0=some b):b=false:=by cases k<;>simp[LM] at h<;>exact h
def qY{cs:List Aa}{off n:Nat}{up x:Int}{k:Nat}{b:Bool}(h:LM cs off n up k x=some b)(hx:x≠0):∃k',k=k'+1/\
  ((x=up/\b=true)\/(x≠up/\1<=x/\x<=n/\∃p q,GP cs off x 1=some p/\GP cs off x 12=some q/\LM cs off n up k' (if p=0 then q else p)=some b)):=by
 cases k with
 |zero=>
  rw[LM] at h;. cases h
  .exact λe=>hx e
 |succ k=>
  refine⟨k,rfl,?_⟩;rw[LM] at h
  .split at h;.rename_i e;cases h;exact .inl ⟨e,rfl⟩
   .rename_i e;split at h
    .rename_i hr;split at h;.rename_i p q c a;exact .inr ⟨e,hr.1,hr.2,p,q,c,a,h⟩
     .cases h
    .cases h
  .exact λe=>hx e
structure lU(Ba Bo ga gn off n cap:Nat)(cs:List Aa)(W:World):Prop where
 a:W.cell? ⟨Ba,0,none⟩=some (.pointer (some ⟨ga,0,none⟩))
 o:W.cell? ⟨Bo,0,none⟩=some (.bool true)
 c:W.cell? ⟨ga,0,none⟩=some (.slice (some ⟨gn,off,none⟩) n cap)
 x:∀(h:Int) (k:Nat) (v:Int),1<=h->h<=n->(k=1\/k=12)->GP cs off h k=some v->W.cell? ⟨gn,off+(h.toNat-1)*13+k,none⟩=some (.int .i64 v)
def lU.N3{Ba Bo ga gn off n cap:Nat}{cs:List Aa}{A B:World}(h:lU Ba Bo ga gn off n cap cs A)(hk:∀b,b=Ba\/b=Bo\/b=ga\/b=gn->B.heap[b]?=A.heap[b]?):lU Ba Bo ga gn off n cap cs B:=
 ⟨by rw[CQ (hk _ AH)];exact h.a,by rw[CQ (hk _ AH)];exact h.o,by rw[CQ (hk _ AH)];exact h.c,
  λx k v h1 h2 e d=>by rw[CQ (hk _ AH)];exact h.x x k v h1 h2 e d⟩
def wA{Ba Bo ga gn off n cap a:Nat}{cs:List Aa}{A:World}{u:Value}{J:World->Prop}(c:∀A B row,J A->A.grownBy B row->(∀r,row=some r->r=a)->J B)
  (hd:∀b,b=Ba\/b=Bo\/b=ga\/b=gn->b≠a) (hs:lU Ba Bo ga gn off n cap cs A) (hc:A.cell? ⟨a,0,none⟩=some u) (hf:A.frozen? ⟨a,0,none⟩=false) (hj:J A) (v:Value):
  lU Ba Bo ga gn off n cap cs (A.setCell ⟨a,0,none⟩ v)/\(A.setCell ⟨a,0,none⟩ v).cell? ⟨a,0,none⟩=some v/\(A.setCell ⟨a,0,none⟩ v).frozen? ⟨a,0,none⟩=false/\J (A.setCell ⟨a,0,none⟩ v):=
 ⟨hs.N3 λb hb=>Below.heap_setCell _ _ _ b (hd b hb),World.cell?_setCell_same _ _ _ hc,by rw[World.frozen?_setCell];exact hf,c _ _ _ hj (grownBy_setCell' A a v) λr e=>by cases e;rfl⟩
def aEJ(m l d Ba Bo n₁ ga gn off n cap:Nat)(cs:List Aa)(up:Int)(J E:World->Prop)
  (C:∀A B row,J A->A.grownBy B row->(∀r,row=some r->r=d)->J B)
  (L:∀x W,J W->YieldAt Fence.wide (m-1) Proofs.Tryz.prog l #[.int .i64 x] W λe W'=>(e= .returned (.bool true)/\J W'/\Below n₁ W W'/\x≠up)\/(e= .returned (.bool false)/\E W'/\x=up))
  (hd:∀b,b=Ba\/b=Bo\/b=ga\/b=gn->b<n₁/\b≠d) (i:d<n₁) (Pl:n<=cap) (hm:cap<=maxLen)
  (W:World) (j:Int) (hs:lU Ba Bo ga gn off n cap cs W) (t:W.cell? ⟨d,0,none⟩=some (.int .i64 j)) (hf:W.frozen? ⟨d,0,none⟩=false)
  (fuel:Nat) (b:Bool) (hcl:LM cs off n up fuel j=some b) (h0:J W):
  CallsIn Fence.wide m Proofs.Tryz.prog 415 #[.func (.yield l) #[] #[],.pointer (some ⟨d,0,none⟩),.pointer (some ⟨Ba,0,none⟩),.pointer (some ⟨Bo,0,none⟩)] W λe W'=>(∃v,e= .returned v)/\((b=false/\J W')\/(b=true/\E W')):=by
 refine callsIn_of_wp Proofs.Tryz.func415 rfl trivial ?_ rfl;simp only[Proofs.Tryz.ntmps415,B7,A9,BP,Nat.reduceAdd,Nat.reduceSub,Kr,Ks,MF,KT,BQ,CJ];gi_wp2
 gi_loopg [] fuel (λk wr=>∃x,LM cs off n up k x=some b/\lU Ba Bo ga gn off n cap cs wr/\wr.cell? ⟨d,0,none⟩=some (.int .i64 x)/\wr.frozen? ⟨d,0,none⟩=false/\J wr)
 case atStart=>exact⟨j,hcl,hs,t,hf,h0⟩
 case round=>
  obtain⟨x,hcl,hs,t,hf,hj⟩:=hrel;by_cases hx:x=0
  .subst hx;have:=qX hcl;subst this;gi_wp2
   refine⟨nofun,?_⟩;gi_wp2
   go_end0
   exact⟨⟨_,rfl⟩,hj⟩
  .obtain⟨k',rfl,Jc⟩:=qY hcl hx;have hne:(x != 0)=true:=by simp[hx]
   obtain⟨fn,tmps,assign,body,hy,hR⟩:=L x wr hj;gi_wp2
   refine⟨nofun,?_⟩;refine hR.mono ?_;rintro e W3 (⟨rfl,w,pA,ŕ⟩|⟨rfl,h,ŕ⟩)
   .rcases Jc with⟨rfl,_⟩|⟨_,h1,h2,p,q,N,M,aBf⟩
    .exact absurd rfl ŕ
    have f:=hs.N3 λb hb=>pA.block b (hd b hb).1;have s:W3.cell? ⟨d,0,none⟩=some (.int .i64 x):=by rw[CQ (pA.block d i)];exact t
    have u:W3.frozen? ⟨d,0,none⟩=false:=by rw[<-hf];simp only[World.frozen?,pA.block d i]
    have hp:=f.x x 1 p h1 h2 (.inl rfl) N;have hq:=f.x x 12 q h1 h2 (.inr rfl) M;have P:=f.a;have O:=f.o;have H:¬Bo=d:=(hd Bo AH).2;have G:¬gn=d:=(hd gn AH).2;gi_wp2
    refine⟨trivial,nofun,(callsIn_wide.2 (aEH ga gn off n cap x _ f.c h1 h2 Pl hm)).mono ?_⟩;rintro e w' ⟨rfl,rfl⟩;obtain⟨y,D,z4,z⟩:=wA C (λb hb=>(hd b hb).2) f s u w (.int .i64 p);by_cases g:p=0
    .subst g;obtain⟨F,Q,z5,I⟩:=wA C (λb hb=>(hd b hb).2) y D z4 z (.int .i64 q);gi_wp2
     gi_roundg k'
     case measure=>omega
     case rel=>exact⟨q,aBf,F,Q,z5,I⟩
    .have K:(p==0)=false:=by simp[g]
     gi_wp2
     gi_roundg k'
     case measure=>omega
     case rel=>exact⟨p,by rw[Ac g] at aBf;exact aBf,y,D,z4,z⟩
   .rcases Jc with⟨_,rfl⟩|⟨aJE,_⟩
    .gi_wp2
     go_end0
     exact⟨⟨_,rfl⟩,h⟩
    .exact absurd ŕ aJE
def aBh(n₁:Nat)(up:Int)(I a:World->Prop)(x:Int)(W:World):Exit->Act->World->Prop
 | .normal,_,W'=>KeepsOthers W W'/\Below n₁ W W'/\I W'/\x≠up
 | .ret,_,W'=>KeepsOthers W W'/\a W'/\x=up
 | .exit _,_,_=>False
 | .goto _,_,_=>False
 | .panic _,_,_=>False
 | .outgrown,_,_=>False
def cM{P:Program}{n gf:Nat}{lb:Array Value}{g:Operand}{ps:Array Tmp}{assign body:Code}{Q:Exit->Act->World->Prop}{a:Act}{w:World}(h:Nat)(b:Bool)(up:Int)
  (hg:a.eval g= .func (.func gf) #[] lb) (u:∀args w,(callFunc gf args).run P w= .ok (.enter gf args) w) (s:h<w.heap.size)
  (aBi:∀(l:Nat) (J o:World->Prop) (W:World),Below w.heap.size w W->(∀A B row,J A->A.grownBy B row->(∀r,row=some r->r=h)->J B)->
   (∀x W1,J W1->YieldAt Fence.wide (n-1 -1) P l #[.int .i64 x] W1 λe W'=>(e= .returned (.bool true)/\J W'/\Below w.heap.size W1 W'/\x≠up)\/(e= .returned (.bool false)/\o W'/\x=up))->J W->
   CallsIn Fence.wide (n-1) P gf (#[.func (.yield l) #[] #[]]++lb) W λe W'=>(∃v,e= .returned v)/\((b=false/\J W')\/(b=true/\o W')))
  (yk:ps.size=1) (I f:World->Prop) (hI:∀A B row,I A->A.grownBy B row->(∀r,row=some r->r=h\/w.heap.size<=r)->I B)
  (hIx:∀A B row,f A->A.grownBy B row->(∀r,row=some r->r=h\/w.heap.size<=r)->f B) (h0:I w) (a₁:Int->Act)
  (hassign:∀(l:Nat) (x:Int) (W:World) (K:Act->World->Prop),K (a₁ x) W->
   assign.wpIn (Fence.wide.inRound l) (n-1 -1) P (Exit.then K (λ_ _ _=>False)) {tmps:=(ps.zip #[.int .i64 x]).foldl (λt (p,v)=>t.setIfInBounds p v) a.tmps,defers:=[]} W)
  (Xd:∀(l:Nat) (x:Int) (W:World),I W->body.wpIn (Fence.wide.inRound l) (n-1 -1) P (aBh w.heap.size up I f x W) (a₁ x) W)
  (ov:∀(D:Nat) (W:World),b=false->I W->W.heap[D]?=some (.deferred (some []))->w.heap.size<=D->Q .normal {a with defers:={target:= .collected D,args:=#[]}::a.defers} W)
  (oz:∀(D:Nat) (W:World),b=true->f W->W.heap[D]?=some (.deferred (some []))->w.heap.size<=D->Code.ret.wpIn Fence.wide n P Q {a with defers:={target:= .collected D,args:=#[]}::a.defers} W):
  (Code.rangeFunc g ps assign body).wpIn Fence.wide n P Q a w:=by
 refine wpIn_rangeFunc ?_;intro fn yf;have hro:Fence.wide.round=none:=rfl;rw[hro];obtain⟨rec,U9⟩:∃rec:LoopState->Option Code->Loop,rec=λst q=>{state:=st,pending:=q,fn,tmps:=a.tmps,params:=ps,assign,body,defers:=w.heap.size}:=⟨_,rfl⟩;obtain⟨W1,c⟩:∃W1,(w.alloc (.deferred (some []))).alloc (.loop (rec .ready none))=W1:=⟨_,rfl⟩;have i:W1.heap[w.heap.size+1]?=some (.loop (rec .ready none)):=by rw[<-c];have:=World.alloc_heap_new (w.alloc (.deferred (some []))) (.loop (rec .ready none));rwa [World.size_alloc] at this
 have j:W1.heap[w.heap.size]?=some (.deferred (some [])):=by rw[<-c];exact(Below.heap_alloc _ _ _ AH).trans (World.alloc_heap_new w _)
 have k:I W1:=by rw[<-c];exact hI _ _ none (hI _ _ none h0 (World.grownBy_alloc _ _ none) nofun) (World.grownBy_alloc _ _ none) nofun
 have Tc:Below w.heap.size w W1:=by rw[<-c];exact(((Below.refl _ w).alloc (Ag _) _).alloc AH _)
 refine⟨w.heap.size+1,[{target:= .collected w.heap.size,args:=#[]}],W1,{target:= .fn (.func gf) lb,args:=#[.func (.yield (w.heap.size+1)) #[] #[]]},W1,gf,
  #[.func (.yield (w.heap.size+1)) #[] #[]]++lb,W1,?_,?_,?_,?_,nofun,?_⟩
 .rw[<-c,U9];exact run_enterLoop_outer _ _ _ _ _
 .simp only[resolve,hg];simp[go_sem]
 .intro f' nu;trivial
 .simp[invoke,go_sem,u]
 .refine(aBi (w.heap.size+1)
   (λW=>I W/\W.heap[w.heap.size+1]?=some (.loop (rec .ready none))/\W.heap[w.heap.size]?=some (.deferred (some [])))
   (λW=>f W/\W.heap[w.heap.size+1]?=some (.loop (rec .done (some .ret)))/\W.heap[w.heap.size]?=some (.deferred (some [])))
   W1 Tc
   (λA B row hs hg' hr=>⟨hI A B row hs.1 hg' (λr e=> .inl (hr r e)),(hg'.block _ (A5.1 hs.2.1).1 (λe=>by have:=hr _ e.symm;omega)).trans hs.2.1,
    (hg'.block _ (A5.1 hs.2.2).1 (λe=>by have:=hr _ e.symm;omega)).trans hs.2.2⟩)
   ?_ ⟨k,i,j⟩).mono ?_
  .rintro x W ⟨hi,hl,hk⟩;have hlt:w.heap.size+1<W.heap.size:=(A5.1 hl).1;have hy:=run_yield (P:=P) (args:=#[.int .i64 x]) hl (by rw[U9];exact yk.symm);rw[U9] at hy;refine⟨fn,_,assign,body,hy,roundIn_of_wpIn yf (hassign _ x W _ ⟨_,run_beginRound hl (by rw[U9]),?_⟩)⟩;have ZZ:(W.putObj (w.heap.size+1) (.loop {rec .ready none with state:= .busy})).heap[w.heap.size+1]?=some (.loop {rec .ready none with state:= .busy}):=World.putObj_heap_same hlt;have YP:(W.putObj (w.heap.size+1) (.loop {rec .ready none with state:= .busy})).heap[w.heap.size]?=some (.deferred (some [])):=(World.putObj_heap_other Ab).trans hk;have np:Below w.heap.size W (W.putObj (w.heap.size+1) (.loop {rec .ready none with state:= .busy})):=belowK_b (Ag _) W _ _ _ Ab hl rfl rfl;refine wpIn_mono (Xd _ x _ (hI _ _ _ hi (grownBy_putObj' W _ _) (λr e=> .inr (by cases e;omega)))) ?_;have HC:∀(jump:Option Code) (W3:World),KeepsOthers (W.putObj (w.heap.size+1) (.loop {rec .ready none with state:= .busy})) W3->
     (Instr.endRound (w.heap.size+1) jump).run P W3= .ok (.bool jump.isNone) (W3.putObj (w.heap.size+1) (.loop (rec (if jump.isNone then .ready else .done) jump)))/\
     W3.heap[w.heap.size+1]?=some (.loop {rec .ready none with state:= .busy})/\
     (W3.putObj (w.heap.size+1) (.loop (rec (if jump.isNone then .ready else .done) jump))).heap[w.heap.size+1]?=some (.loop (rec (if jump.isNone then .ready else .done) jump))/\
     (W3.putObj (w.heap.size+1) (.loop (rec (if jump.isNone then .ready else .done) jump))).heap[w.heap.size]?=some (.deferred (some [])):=λjump W3 pA=>by
    have kC:=pA.same _ _ ZZ rfl;have:=run_endRound (P:=P) jump kC;rw[U9] at this⊢;exact⟨this,by rw[U9] at kC;exact kC,World.putObj_heap_same (A5.1 kC).1,(World.putObj_heap_other Ab).trans (pA.same _ _ YP rfl)⟩
   rintro e a3 W3 hp;cases e with
   |normal=>obtain⟨pA,aJG,yz,hne⟩:=hp;obtain⟨hr,kC,d,ze⟩:=HC none W3 pA;exact⟨_,_,hr,.inl ⟨rfl,⟨hI _ _ _ yz (grownBy_putObj' W3 _ _) (λr e=> .inr (by cases e;omega)),d,ze⟩,(np.trans aJG).trans (belowK_b (Ag _) W3 _ _ _ Ab kC rfl rfl),hne⟩⟩
   |ret=>obtain⟨pA,yz,he⟩:=hp;obtain⟨hr,kC,d,ze⟩:=HC (some .ret) W3 pA;exact⟨_,_,hr,.inr ⟨rfl,⟨hIx _ _ _ yz (grownBy_putObj' W3 _ _) (λr e=> .inr (by cases e;omega)),d,ze⟩,he⟩⟩
   |exit id=>exact hp.elim
   |goto t=>exact hp.elim
   |panic y=>exact hp.elim
   |outgrown=>exact hp.elim
  .rintro e m ⟨⟨v,rfl⟩,⟨hb,hi,hl,hk⟩|⟨hb,hi,hl,hk⟩⟩;.exact⟨none,_,by have:=run_endLoop (P:=P) hl (by rw[U9];simp);rw[U9] at this;exact this,ov _ _ hb (hI _ _ _ hi (grownBy_putObj' m _ _) (λr e=> .inr (by cases e;omega))) ((World.putObj_heap_other Ab).trans hk) (Ag _)⟩
   .exact⟨some .ret,_,by have:=run_endLoop (P:=P) hl (by rw[U9];simp);rw[U9] at this;exact this,oz _ _ hb (hIx _ _ _ hi (grownBy_putObj' m _ _) (λr e=> .inr (by cases e;omega))) ((World.putObj_heap_other Ab).trans hk) (Ag _)⟩
def CS{W:World}{k j:Nat}{v:Value}(o:Obj)(h:W.cell? ⟨k,j,none⟩=some v):(W.alloc o).cell? ⟨k,j,none⟩=some v:=by rw[World.cell?_alloc_past _ _ _ (DM h)];exact h
def K4{W:World}{k j:Nat}{v:Value}(o:Obj)(h:W.cell? ⟨k,j,none⟩=some v):(W.alloc o).frozen? ⟨k,j,none⟩=W.frozen? ⟨k,j,none⟩:=
 World.frozen?_alloc_past _ _ _ (DM h)
def L4(W:World)(v:Value)(t:TypeId):(W.alloc (.cells #[v] t)).cell? ⟨W.heap.size,0,none⟩=some v/\(W.alloc (.cells #[v] t)).frozen? ⟨W.heap.size,0,none⟩=false:=by
 have h:(W.alloc (.cells #[v] t)).heap[W.heap.size]?=some (.cells #[v] t (0,0)):=World.alloc_heap_new W _;constructor;.simp only[World.cell?,h];rfl
 .simp only[World.frozen?,h];rfl
def Xi{A B:World}{row:Option Nat}{k:Nat}{v:Value}(h:A.cell? ⟨k,0,none⟩=some v)(hg:A.grownBy B row)(hr:∀r,row=some r->k≠r):
  B.cell? ⟨k,0,none⟩=some v/\B.frozen? ⟨k,0,none⟩=A.frozen? ⟨k,0,none⟩:=by
 have hb:B.heap[k]?=A.heap[k]?:=hg.block k (DM h) (λe=>hr k e.symm rfl);exact⟨by rw[CQ hb];exact h,by simp only[World.frozen?,hb]⟩
def aBj(ga gn off n cap:Nat)(cs:List Aa)(up x:Int)(w:World)(o:ga<w.heap.size)(Ŗ:gn<w.heap.size)(Pl:n<=cap)(hm:cap<=maxLen)
  (hc:w.cell? ⟨ga,0,none⟩=some (.slice (some ⟨gn,off,none⟩) n cap))
  (hx:∀(h:Int) (k:Nat) (v:Int),1<=h->h<=n->(k=1\/k=12)->GP cs off h k=some v->w.cell? ⟨gn,off+(h.toNat-1)*13+k,none⟩=some (.int .i64 v))
  (b:Bool) (hcl:LM cs off n up (n+1) x=some b) (OU:1<=up) (Jr:up<=n) (OX:1<=x) (cN:x<=n):
  Calls Proofs.Tryz.prog 237 #[.pointer (some ⟨ga,0,none⟩),.int .i64 up,.int .i64 x] w λe w'=>e= .returned (.bool b)/\Below w.heap.size w w':=by
 refine(callsIn_wide (n:=5)).1 ?_;refine callsIn_of_wp_marks Proofs.Tryz.func237 rfl trivial ?_;simp only[Proofs.Tryz.ntmps237,B7,A9,BP,Nat.reduceAdd,Nat.reduceSub,Kr,Ks,MF,KT,BQ,CJ];have s:((w.alloc (.cells #[.int .i64 up] 3)).alloc (.cells #[.bool false] 4)).cell? ⟨ga,0,none⟩=some (.slice (some ⟨gn,off,none⟩) n cap):=by rw[World.cell?_alloc_past _ _ _ Ee,World.cell?_alloc_past _ _ _ o];exact hc
 have z:=L4 w (.int .i64 up) 3;have d:=L4 (w.alloc (.cells #[.int .i64 up] 3)) (.bool false) 4;have u:=L4 ((w.alloc (.cells #[.int .i64 up] 3)).alloc (.cells #[.bool false] 4)) (.pointer (some ⟨ga,0,none⟩)) 60;have i:=L4 (((w.alloc (.cells #[.int .i64 up] 3)).alloc (.cells #[.bool false] 4)).alloc (.cells #[.pointer (some ⟨ga,0,none⟩)] 60)) (.int .i64 x) 3;have t:=L4 ((((w.alloc (.cells #[.int .i64 up] 3)).alloc (.cells #[.bool false] 4)).alloc (.cells #[.pointer (some ⟨ga,0,none⟩)] 60)).alloc (.cells #[.int .i64 x] 3)) (.bool true) 4;simp only[World.size_alloc] at d u i t;have H:decide (1<=up/\up<=n)=true:=AA ⟨OU,Jr⟩;have G:decide (1<=x/\x<=n)=true:=AA ⟨OX,cN⟩;gi_wp2
 refine⟨trivial,(callsIn_wide.2 (Z0 ga _ n cap up _ s)).mono ?_⟩;rintro e w' ⟨rfl,rfl⟩;rw[H];gi_wp2
 refine⟨trivial,(callsIn_wide.2 (Z0 ga _ n cap x _ s)).mono ?_⟩;rintro e w' ⟨rfl,rfl⟩;rw[G];gi_wp2
 refine⟨trivial,(callsIn_wide.2 (aEI ga x _)).mono ?_⟩;rintro e w' ⟨rfl,rfl⟩;gi_wp2
 refine cM (gf:=415) (lb:=#[.pointer (some ⟨w.heap.size+1+1+1,0,none⟩),.pointer (some ⟨w.heap.size+1+1,0,none⟩),.pointer (some ⟨w.heap.size+1+1+1+1,0,none⟩)]) (w.heap.size+1+1+1) b up rfl (Go.Proofs.enters_of Proofs.Tryz.func415 Da rfl) AH
  ?aBi rfl
  (λW=>Below w.heap.size w W/\W.cell? ⟨w.heap.size,0,none⟩=some (.int .i64 up)/\W.cell? ⟨w.heap.size+1,0,none⟩=some (.bool false)/\W.frozen? ⟨w.heap.size+1,0,none⟩=false)
  (λW=>Below w.heap.size w W/\W.cell? ⟨w.heap.size+1,0,none⟩=some (.bool true)) ?hI ?hIx ?h0
  (λy=>{tmps:=#[.pointer (some ⟨ga,0,none⟩),.int .i64 up,.int .i64 x,undef,.pointer (some ⟨w.heap.size,0,none⟩),undef,.pointer (some ⟨w.heap.size+1,0,none⟩),.int .i64 y,.pointer (some ⟨ga,0,none⟩),.int .i64 up,.bool true,.bool false,.bool false,.pointer (some ⟨ga,0,none⟩),.int .i64 x,.bool true,.bool false,.bool false,.pointer (some ⟨ga,0,none⟩),.int .i64 x,.func (.func 415) #[] #[.pointer (some ⟨w.heap.size+1+1+1,0,none⟩),.pointer (some ⟨w.heap.size+1+1,0,none⟩),.pointer (some ⟨w.heap.size+1+1+1+1,0,none⟩)],.int .i64 y,undef,undef,undef],defers:=[]})
  ?hassign ?Xd ?ov ?oz
 case hI=>rintro A B row ⟨h1,h2,c,q⟩ hg hr;have JW:=DM c;have C:=Xi h2 hg (λr e=>by rcases hr r e with rfl|h<;>simp at* <;>omega);have m:=Xi c hg (λr e=>by rcases hr r e with rfl|h<;>simp at* <;>omega);exact⟨h1.grown hg Ab (λk e=>by rcases hr k e with rfl|h<;>simp at* <;>omega),C.1,m.1,m.2.trans q⟩
 case hIx=>rintro A B row ⟨h1,c⟩ hg hr;have JW:=DM c;have m:=Xi c hg (λr e=>by rcases hr r e with rfl|h<;>simp at* <;>omega);exact⟨h1.grown hg Ab (λk e=>by rcases hr k e with rfl|h<;>simp at* <;>omega),m.1⟩
 case h0=>
  refine⟨(((((Below.refl _ w).alloc (Ag _) _).alloc AH _).alloc Ee _).alloc Ee _).alloc Ee _,?_,?_,?_⟩;.exact CS _ (CS _ (CS _ (CS _ z.1)))
  .exact CS _ (CS _ (CS _ d.1))
  .rw[K4 _ (CS _ (CS _ d.1)),K4 _ (CS _ d.1),K4 _ d.1];exact d.2
 case aBi=>
  intro l J I W hW F E hj;have kk:∀{k j:Nat} {v:Value},(((((w.alloc (.cells #[.int .i64 up] 3)).alloc (.cells #[.bool false] 4)).alloc (.cells #[.pointer (some ⟨ga,0,none⟩)] 60)).alloc (.cells #[.int .i64 x] 3)).alloc (.cells #[.bool true] 4)).cell? ⟨k,j,none⟩=some v->W.cell? ⟨k,j,none⟩=some v:=
   λ{k j v} h=>by rw[CQ (hW.block k (DM h))];exact h
  have hs:lU (w.heap.size+1+1) (w.heap.size+1+1+1+1) ga gn off n cap cs W:=
   ⟨kk (CS _ (CS _ u.1)),kk t.1,kk (CS _ (CS _ (CS _ s))),λh k v h1 h2 c q=>kk (CS _ (CS _ (CS _ (CS _ (CS _ (hx h k v h1 h2 c q))))))⟩
  refine aEJ 4 l (w.heap.size+1+1+1) (w.heap.size+1+1) (w.heap.size+1+1+1+1) _ ga gn off n cap cs up J I F E ?_ AH Pl hm W x hs (kk (CS _ i.1)) ?_ (n+1) b hcl hj;.rintro b (rfl|rfl|rfl|rfl)<;>simp<;>omega
  .have:W.frozen? ⟨w.heap.size+1+1+1,0,none⟩=_:=World.frozen?_of_block (hW.block (w.heap.size+1+1+1) AH);rw[this,K4 _ i.1];exact i.2
 case hassign=>
  intro l y W K f;have aJI:=Oper.semAt_some l;gi_wp2
  exact f
 case Xd=>
  rintro l y W ⟨hb,RG,IV,je⟩;have aJI:=Oper.semAt_some l;gi_wp2
  .rename_i he;obtain rfl:y=up:=eq_of_beq he;exact⟨KeepsOthers.setCell _ _ _,⟨hb.setCell (Fi _) _,World.cell?_setCell_same _ _ _ IV⟩,rfl⟩
  .rename_i he;exact⟨KeepsOthers.refl _,Below.refl _ _,⟨hb,RG,IV,je⟩,λe=>by subst e;simp at he⟩
 case ov=>
  rintro D W rfl ⟨hb,RG,IV,je⟩ f p;gi_wp2
  have g:=(KeepsOthers.setCell W ⟨w.heap.size+1,0,none⟩ (.bool false)).same D _ f rfl;have a:=cell_kept (World.cell?_setCell_same W ⟨w.heap.size+1,0,none⟩ (.bool false) IV) (grownBy_putObj' _ D (.deferred none)) (λr e=>by cases e;exact⟨_,g,rfl⟩);refine⟨AH,.inl ⟨_,_,rfl,run_takeDeferred g,?_⟩⟩;refine⟨.bool false,?_,rfl,(hb.setCell (Fi _) _).grown (grownBy_putObj' _ D _) (by have:=DM IV;simp;omega) (λk e=>by cases e;simp at p;omega)⟩;simp[results,Proofs.Tryz.f237,go_sem,a]
 case oz=>
  rintro D W rfl ⟨hb,IV⟩ f p;gi_wp2
  have a:=cell_kept IV (grownBy_putObj' _ D (.deferred none)) (λr e=>by cases e;exact⟨_,f,rfl⟩);refine⟨AH,.inl ⟨_,_,rfl,run_takeDeferred f,?_⟩⟩;refine⟨.bool true,?_,rfl,hb.grown (grownBy_putObj' _ D _) (by have:=DM IV;omega) (λk e=>by cases e;simp at p;omega)⟩;simp[results,Proofs.Tryz.f237,go_sem,a]
def Xj(ga:Nat)(p:Option Addr)(n cap:Nat)(up x:Int)(w:World)(hc:w.cell? ⟨ga,0,none⟩=some (.slice p n cap))(ho:¬(1<=up/\up<=n/\1<=x/\x<=n)):
  Calls Proofs.Tryz.prog 237 #[.pointer (some ⟨ga,0,none⟩),.int .i64 up,.int .i64 x] w λe w'=>e= .returned (.bool false)/\Below w.heap.size w w':=by
 have c:((w.alloc (.cells #[.int .i64 up] 3)).alloc (.cells #[.bool false] 4)).cell? ⟨ga,0,none⟩=some (.slice p n cap):=CS _ (CS _ hc);have a:=L4 (w.alloc (.cells #[.int .i64 up] 3)) (.bool false) 4;simp only[World.size_alloc] at a;have hb:Below w.heap.size w ((w.alloc (.cells #[.int .i64 up] 3)).alloc (.cells #[.bool false] 4)):=((Below.refl _ w).alloc (Ag _) _).alloc AH _;refine(callsIn_wide (n:=5)).1 ?_;refine callsIn_of_wp Proofs.Tryz.func237 rfl trivial ?_ rfl;simp only[Proofs.Tryz.ntmps237,B7,A9,BP,Nat.reduceAdd,Nat.reduceSub,Kr,Ks,MF,KT,BQ,CJ];by_cases h1:1<=up/\up<=n
 .have b:decide (1<=up/\up<=n)=true:=AA h1;have d:decide (1<=x/\x<=n)=false:=Ay λh2=>ho ⟨h1.1,h1.2,h2.1,h2.2⟩;gi_wp2
  refine⟨trivial,(callsIn_wide.2 (Z0 ga _ n cap up _ c)).mono ?_⟩;rintro e w' ⟨rfl,rfl⟩;rw[b];gi_wp2
  refine⟨trivial,(callsIn_wide.2 (Z0 ga _ n cap x _ c)).mono ?_⟩;rintro e w' ⟨rfl,rfl⟩;rw[d];gi_wp2
  refine bodyPost_ret (v:= .bool false) ?_ rfl ⟨rfl,hb⟩;simp[results,Proofs.Tryz.f237,go_sem,a.1]
 .have b:decide (1<=up/\up<=n)=false:=Ay h1;gi_wp2
  refine⟨trivial,(callsIn_wide.2 (Z0 ga _ n cap up _ c)).mono ?_⟩;rintro e w' ⟨rfl,rfl⟩;rw[b];gi_wp2
  refine⟨trivial,?_⟩;gi_wp2
  refine bodyPost_ret (v:= .bool false) ?_ rfl ⟨rfl,hb⟩;simp[results,Proofs.Tryz.f237,go_sem,a.1]
section
variable{h:Ah}
def cO{cs:List Aa}{off:Nat}{x:Int}{k:Nat}{v:Int}(e:GP cs off x k=some v):cs[off+(x.toNat-1)*13+k]?=some (.int .i64 v):=by
 unfold GP at e;split at e;.rename_i a;cases e;exact a
 .cases e
def zf(n:Nat)(args:List Aa)(r:Aa)(h':Ah)(A0:IT.step (Ca cx) (IT.run (Ca cx) n) (Nw args) h=some (.ret,[r],h')):
  (∃fn c,cx.P.funcs[Ez 237]?=some fn/\(fn.name== "runtime.NumGoroutine")=false/\fn.body=some c)/\
  ∀(U:Gh) (w:World) (cargs:Array Value),Hk U h w->(∀g cs,cx.GZ g=some cs->C1 U cs g 0)->Bg U args cargs.toList->
   Calls cx.P (Ez 237) cargs w λe w'=>match e with
    | .returned v=>∃d,Hk d h' w'/\Ld U w d w'/\BO d r v/\(cx.Jh 237=true->∃s c,IU d w.heap.size w' s c v r)
    |_=>False:=by
 refine⟨⟨_,_,Proofs.Tryz.func237,rfl,rfl⟩,λU w cargs hi hg ha=>?_⟩;simp only[Nw,IT.step,E4] at A0;cases e0:Nv h args with
 |none=>simp[e0] at A0
 |some E=>
 obtain⟨h1,G⟩:=E;simp only[e0] at A0;cases A0;have HC:∀(b:Bool) (cs:Array Value),h'=h->r= .bool b->Calls Proofs.Tryz.prog 237 cs w (λe w'=>e= .returned (.bool b)/\Below w.heap.size w w')->
   Calls cx.P (Ez 237) cs w λe w'=>match e with
    | .returned v=>∃d,Hk d h' w'/\Ld U w d w'/\BO d r v/\(cx.Jh 237=true->∃s c,IU d w.heap.size w' s c v r)
    |_=>False:=by
  rintro b cs rfl rfl hc;refine hc.mono λe w' he=>?_;obtain⟨rfl,hb⟩:=he;obtain⟨VA,OV⟩:=hi.Li hb;exact⟨U,VA,OV,rfl,λe=>by cases e⟩
 unfold Nv at e0;split at e0
 .rename_i id up x;obtain⟨v0,us,ň,⟨g,hm,rfl⟩,F,m,rfl,rfl,v2,pL,rfl,rfl,hnil⟩:=ha;cases hnil;have a:cargs=#[.pointer (some ⟨g,0,none⟩),.int .i64 up,.int .i64 x]:=by apply HB;simpa using ň
  subst a;split at e0;.rename_i l hc;cases e0;obtain⟨_,y,hy,p⟩:=hi.Sl hc hm (j:=0) rfl;cases p;exact HC false _ rfl rfl (Xj g none 0 0 up x w hy Ab)
  .rename_i C off len l hc;split at e0
   .rename_i cs hcs;split at e0
    .rename_i hl;obtain⟨_,y,hy,gn,cap,ŏ,rfl,A,⟨H,u⟩,q⟩:=hi.Sl hc hm (j:=0) rfl;have f:g<w.heap.size:=DM hy;have Ŗ:gn<w.heap.size:=by obtain⟨⟨us,e,fr,B,I⟩,_⟩:=hi.sz gn _ q;exact(A5.1 B).1
     split at e0
     .rename_i hr;cases i:LM cs off len up (len+1) x with
      |none=>simp[i] at e0
      |some b=>simp only[i,B9,Bz,Ih] at e0;obtain⟨rfl,rfl⟩:=e0;refine HC b _ rfl rfl (aBj g gn off len cap cs up x w f Ŗ A u hy (λt k v h1 h2 J D=>?_) b i hr.1 hr.2.1 hr.2.2.1 hr.2.2.2);obtain⟨_,z,hz,o⟩:=hi.Sl hcs ŏ (cO D);cases o;exact hz
     .rename_i hr;cases e0;exact HC false _ rfl rfl (Xj g _ len cap up x w hy hr)
    .cases e0
   .cases e0
  .cases e0
 .cases e0
end
def OK{T e:TypeId}{B b:Nat}{bs:List Value}{W W':World}(h:Lib.IsBuilder T e B b bs W)(hb:Below W.heap.size W W'):Lib.IsBuilder T e B b bs W':=by
 have key:∀p,Lib.BuilderAt T e B b p bs W->Lib.BuilderAt T e B b p bs W':=λp ⟨hB,v,xw,FF,hne⟩=>by refine⟨hB,v,(hb.block b (A5.1 xw).1).trans xw,?_,hne⟩;exact FF.kept (row:=none) ⟨hb.os,hb.tape,hb.output,hb.size,λk hk _=>hb.block k hk⟩ (Classical.em _)
 exact h.imp (key _) (key _)
def KK(a b:List UInt8):Lib.byteCells (a++b)=Lib.byteCells a++Lib.byteCells b:=by simp[Lib.byteCells]
def byteCells_length(a:List UInt8):(Lib.byteCells a).length=a.length:=by simp[Lib.byteCells]
def qZ(d:Nat):Lib.repeatL [32,32] d=List.replicate (2*d) 32:=by
 induction d with
 |zero=>rfl
 |succ d ih=>rw[Lib.repeatL,ih,(Ab:2*(d+1)=2*d+1+1),KS,KS];rfl
def q6:∀a:Aa,a.MI=true->a.still=true
 | .bool _,_=>rfl
 | .int _ _,_=>rfl
 | .str _,_=>rfl
 |a,h=>by cases a<;>first|rfl|simp[Aa.MI] at h
def Us:∀l:List Aa,l.all Aa.MI=true->JL l=true
 |[],_=>rfl
 |a::l,h=>by simp only[bI,Bq] at h;simp only[JL,Bq];exact⟨q6 a h.1,Us l h.2⟩
section
variable{U:Gh}{h:Ah}{w:World}
def lV(hi:Hk U h w){id g:Nat}{cs:List Aa}(hc:h[id]?=some (.cells cs))(hm:U.mu id=some g):∀(n o:Nat),o+n<=cs.length->MT (CA cs 1 o n)=true->
  (CA cs 1 o n).length=n/\E6 (Gr w) (CA cs 1 o n) 1 g o
 |0,o,_,_=>⟨rfl,trivial⟩
 |n+1,o,hl,hs=>by
  have hlt:o<cs.length:=Ab;have a:(cs.drop o).take 1=[cs[o]]:=by rw[AF hlt];rfl
  have Vw:JL ((cs.drop o).take 1)=true/\MT (CA cs 1 (o+1) n)=true:=by simpa only[CA,MT,Bq] using hs
  obtain⟨p,q⟩:=lV hi hc hm n (o+1) Ab Vw.2;rw[a] at Vw;have HR:cs[o].still=true:=by simpa[JL] using Vw.1
  obtain⟨u,hu,h1,hr⟩:=Ny hi hc hm (Ai hlt);refine⟨by simp[CA,p],?_⟩;simp only[CA,a];exact⟨rfl,⟨⟨u,Tt hu h1,BO.mem hi _ _ HR hr⟩,trivial⟩,q⟩
def cP(w:World)(b o:Nat)(A6:List (List Aa)):Prop:=
 ∃v,w.cell? ⟨b,o,none⟩=some v/\((v= .slice none 0 0/\A6=[])\/
  (∃a c cap,v= .slice (some ⟨a,c,none⟩) A6.length cap/\A6.length<=cap/\cap<=maxLen/\a<w.heap.size/\E6 (Gr w) A6 1 a c))
def o_(hi:Hk U h w){id g:Nat}(hm:U.mu id=some g){x:Int}{h1:Ah}{r:Aa}(e:db h [.ptr (some (id,0)),.int .i64 x]=some (h1,r)):
  h1=h/\∃gn off n cap row c A6,r= .tuple [.CG row,.int .i64 c,.sl 1 A6]/\g<w.heap.size/\gn<w.heap.size/\w.cell? ⟨g,0,none⟩=some (.slice (some ⟨gn,off,none⟩) n cap)/\n<=cap/\cap<=maxLen/\
   1<=x/\x<=n/\C1 (Gr w) row gn (off+(x.toNat-1)*13)/\w.cell? ⟨gn,off+(x.toNat-1)*13+11,none⟩=some (.int .i64 c)/\cP w gn (off+(x.toNat-1)*13+2) A6:=by
 unfold db at e;split at e
 .rename_i FM x' Ku;cases Ku;split at e
  .rename_i X off n l hc;split at e
   .rename_i cs hcs;split at e
    .rename_i hx;split at e
     .rename_i A z G v t s q p o k U7 c Œ hrow;split at e
      .rename_i HR;simp only[JL,Bq,MB] at HR;obtain⟨s0,R,Q,P,O,N,M,L,K,C,B⟩:=HR;obtain⟨_,y,hy,gn,cap,ŏ,rfl,J,⟨Z,I⟩,V⟩:=hi.Sl hc hm (j:=0) rfl;have Ŗ:gn<w.heap.size:=by obtain⟨⟨us,e,fr,D,W⟩,_⟩:=hi.sz gn _ V;exact(A5.1 D).1
       have get:∀(j:Nat) (a:Aa),j<13->[A,z,G,v,t,s,q,p,o,k,U7,.int .i64 c,Œ][j]?=some a->cs[off+(x.toNat-1)*13+j]?=some a:=λj a hj ha=>by rw[<-hrow,CV hj,Cr] at ha;exact ha
       have key:∀(j:Nat) (a:Aa),j<13->[A,z,G,v,t,s,q,p,o,k,U7,.int .i64 c,Œ][j]?=some a->a.still=true->∃u,(Gr w).Io gn (off+(x.toNat-1)*13+j)=some u/\BO (Gr w) a u:=λj a hj ha hs=>by obtain⟨u,hu,ho,hr⟩:=Ny hi hcs ŏ (get j a hj ha);exact⟨u,Tt hu ho,BO.mem hi _ _ hs hr⟩
       have Xk:w.cell? ⟨gn,off+(x.toNat-1)*13+11,none⟩=some (.int .i64 c):=by obtain⟨u,hu,_,hr⟩:=Ny hi hcs ŏ (get 11 _ Ab rfl);cases hr;exact hu
       obtain⟨Y,Jr,YM,LQ⟩:=Ny hi hcs ŏ (get 2 G Ab rfl);have mk:∀(E:Aa),(∃u,(Gr w).Io gn (off+(x.toNat-1)*13+2)=some u/\BO (Gr w) E u)->C1 (Gr w) [A,z,E,v,t,s,q,p,o,k,U7,.int .i64 c,Œ] gn (off+(x.toNat-1)*13):=λE h2=>⟨key 0 A Ab rfl s0,key 1 z Ab rfl R,h2,key 3 v Ab rfl Q,key 4 t Ab rfl P,key 5 s Ab rfl O,key 6 q Ab rfl N,key 7 p Ab rfl M,key 8 o Ab rfl L,key 9 k Ab rfl K,key 10 U7 Ab rfl C,key 11 _ Ab rfl rfl,key 12 Œ Ab rfl B,trivial⟩
       have hg:=DM hy;split at e;.cases e;cases LQ;exact⟨rfl,gn,off,n,cap,_,c,[],rfl,hg,Ŗ,hy,J,I,hx.1,hx.2.1,mk _ ⟨_,Tt Jr YM,rfl⟩,Xk,_,Jr,.inl ⟨rfl,rfl⟩⟩
       .rename_i MK f m;split at e
        .rename_i ks yi;split at e
         .rename_i hk;cases e;obtain⟨i,b,ŗ,rfl,H,⟨r2,T⟩,S⟩:=LQ;obtain⟨d,t2⟩:=lV hi yi ŗ m f Ab hk.2;have F:i<w.heap.size:=by obtain⟨⟨us,e,fr,D,W⟩,_⟩:=hi.sz i _ S;exact(A5.1 D).1
          refine⟨rfl,gn,off,n,cap,_,c,CA ks 1 f m,rfl,hg,Ŗ,hy,J,I,hx.1,hx.2.1,mk _ ⟨_,Tt Jr YM,⟨i,f,none⟩,b,by rw[d],by rw[d];exact H,.inl rfl,t2⟩,Xk,_,Jr,.inr ⟨i,f,b,by rw[d],by rw[d];exact H,T,F,t2⟩⟩
         .cases e
        .cases e
       .cases e
      .cases e
     .cases e
    .cases e
   .cases e
  .cases e
 .cases e
def zg{n:Nat}(hs:Fe cx (IT.run (Ca cx) n))(hi:Hk U h w)(hg:∀g cs,cx.GZ g=some cs->C1 U cs g 0){row:List Aa}{s:Ao}{h1:Ah}(e:IT.run (Ca cx) n (Ca cx 156 [.CG row]) []=some (.ret,[.str s],h1))
  {W:World} (hb:Below w.heap.size w W) {gn o:Nat} (hr:C1 (Gr w) row gn o):
  Calls Proofs.Tryz.prog 156 #[.pointer (some ⟨gn,o,none⟩)] W λe W'=>e= .returned (.string ⟨⟨s⟩⟩)/\Below W.heap.size W W':=by
 refine((hs.2 156 _ _ _ _ e).2 (Gr W) W #[.pointer (some ⟨gn,o,none⟩)] (oh W) (λg cs Ņ=>C1.mono (lQ hb) cs g 0 (C1.mem hi cs g 0 (Us cs (hs.1.1 g cs Ņ)) (hg g cs Ņ)))
  ⟨_,_,rfl,⟨gn,o,rfl,C1.mono (lQ hb) row gn o hr⟩,rfl⟩).mono λe W' he=>?_
 cases e with
 |returned v=>obtain⟨a,_,ha,hv,_⟩:=he;cases hv;exact⟨rfl,ha.os,ha.tape,ha.output,ha.size,λk hk=>(ha.N3 k hk (λid=>by simp[Gr])).1⟩
 |_=>exact he.elim
end
def zh{w:World}{b o:Nat}{A6:List (List Aa)}(h:cP w b o A6):∃p cap,w.cell? ⟨b,o,none⟩=some (.slice p A6.length cap)/\A6.length<=cap/\cap<=maxLen/\
  ∀(i:Nat) (y:Int),A6[i]?=some [.int .i64 y]->∃a c,p=some ⟨a,c,none⟩/\a<w.heap.size/\w.cell? ⟨a,c+i,none⟩=some (.int .i64 y):=by
 obtain⟨v,hv,⟨rfl,rfl⟩|⟨a,c,cap,rfl,h1,h2,e,d⟩⟩:=h;.exact⟨none,0,hv,Ag _,AX,λi y hi=>by simp at hi⟩
 .refine⟨_,cap,hv,h1,h2,λi y hi=>⟨a,c,rfl,e,?_⟩⟩;obtain⟨_,⟨u,hu,hr⟩,_⟩:=E6.get d hi;cases hr;have:=hu;simp only[Gr,QD] at this;simpa using this.1
def lW(l:List UInt8):Lib.strCells ⟨l.toArray⟩=Lib.byteCells l:=by simp[Lib.strCells,Lib.byteCells]
def cQ(l:List UInt8):Lib.strCells ⟨⟨l⟩⟩=Lib.byteCells l:=by simp[Lib.strCells,Lib.byteCells]
def q7(i n:Nat)(h:i<n)(hn:n<=9223372036854775807):wrap64 ((i:Int)+1)=((i+1:Nat):Int):=by rw[Go.IntWalk.wrap64_in _ ⟨Ab,Ab⟩];omega
def Z3(d:Nat)(h:d<=1000):wrap64 ((d:Int)+1)=((d+1:Nat):Int):=by rw[Go.IntWalk.wrap64_in _ ⟨Ab,Ab⟩];omega
abbrev jk(g:Nat)(w0:World)(x:Int)(d:Nat)(DW Rj:Ao):Prop:=
 ∀(B b:Nat) (W:World),w0.heap.size<=B->B<=W.heap.size->Below w0.heap.size w0 W->Lib.IsBuilder 99 5 B b (Lib.byteCells DW) W->
  Calls Proofs.Tryz.prog 55 #[.pointer (some ⟨g,0,none⟩),.pointer (some ⟨b,0,none⟩),.int .i64 x,.int .i64 d] W λe W'=>(∃v,e= .returned v)/\Lib.IsBuilder 99 5 B b (Lib.byteCells Rj) W'/\Below B W W'
def dh{p:Prop}(h:p):Hid p:=h
def Mh{w0 W':World}{k j:Nat}{v:Value}(hb:Below w0.heap.size w0 W')(h:w0.cell? ⟨k,j,none⟩=some v):W'.cell? ⟨k,j,none⟩=some v:=by rw[CQ (hb.block k (DM h))];exact h
def q8:Code->Code
 | .seq _ c=>q8 c
 | .block _ c=>c
 |c=>c
noncomputable def pc:Code:=match Proofs.Tryz.f55.body with
 |some c=>q8 c
 |none=> .skip
def pd{w0 W W6:World}{g B b d a:Nat}{p:Option Addr}{A6:List (List Aa)}(hB:w0.heap.size<=B)(h:B<=W.heap.size)(hb:Below w0.heap.size w0 W)(hd:d<=1000)
  (YP:A6.length<=a) (pA:a<=maxLen) (ze:∀(i:Nat) (y:Int),A6[i]?=some [.int .i64 y]->∃l ko,p=some ⟨l,ko,none⟩/\l<w0.heap.size/\w0.cell? ⟨l,ko+i,none⟩=some (.int .i64 y))
  (f:Nat->Ao) (hf:∀i,i<A6.length->∃y,A6[i]?=some [.int .i64 y]/\jk g w0 y (d+1) (f i) (f (i+1))) (j:Below B W W6) (l6:Lib.IsBuilder 99 5 B b (Lib.byteCells (f 0)) W6)
  (z2 z4 z5 z6 z7 z8 z9 z10 z11 z12 z13 z14 Z z16 Y X V z20 U z22 T S R Q P O N M L K J I H G z37 F E D C A z x w u t z51 s z53 r q o n m:Value):
  pc.wpIn Fence.wide 5 Proofs.Tryz.prog (Exit.inBlock 0<|bodyPost Proofs.Tryz.prog Proofs.Tryz.f55 λe W'=>(∃v,e= .returned v)/\Lib.IsBuilder 99 5 B b (Lib.byteCells (f A6.length)) W'/\Below B W W')
   {tmps:=#[.pointer (some ⟨g,0,none⟩),.pointer (some ⟨b,0,none⟩),z2,.int .i64 d,z4,z5,z6,z7,z8,z9,z10,z11,z12,z13,z14,Z,z16,Y,X,V,z20,U,z22,T,S,R,Q,P,O,N,M,L,K,J,I,H,G,z37,F,E,D,C,A,z,x,w,.slice p A6.length a,.int .i64 A6.length,.int .i64 0,u,t,z51,s,z53,r,q,o,n,m],defers:=[]} W6:=by
 simp only[pc,q8,Proofs.Tryz.f55];gi_loopg [48] A6.length (λk v wr=>∃i,i<=A6.length/\k=A6.length-i/\v= .int .i64 (i:Nat)/\Below B W wr/\Lib.IsBuilder 99 5 B b (Lib.byteCells (f i)) wr)
 case atStart=>exact⟨0,AQ _,rfl,rfl,j,l6⟩
 case round=>
  obtain⟨i,hi,rfl,rfl,bbi,li⟩:=hrel;by_cases hlt:i<A6.length
  .obtain⟨y,hy,Ř⟩:=hf i hlt;obtain⟨l,ko,rfl,hgk,JV⟩:=ze i y hy;have c:Below w0.heap.size w0 wr:=hb.trans (bbi.mono hB);have ci:=Mh c JV;have aP8:(i:Int)<(A6.length:Int):=by exact_mod_cast hlt
   have hwi:=q7 i _ hlt (Bu YP pA);have hwd:=Z3 d hd;have Vz:=Ř B b _ hB (Bu h bbi.size) c li;clear Ř hf ze YP pA c li l6 j JV hy hgk hB h hb;rw[show((d+1:Nat):Int)=(d:Int)+1 from rfl] at Vz;gi_wp2
   refine⟨trivial,(callsIn_wide.2 Vz).mono ?_⟩;rintro e W7 ⟨⟨v,rfl⟩,l7,b7⟩;gi_wp2
   gi_roundg (A6.length-(i+1))
   case measure=>exact Nat.sub_lt_sub_left hlt (Ni i)
   case rel=>refine⟨i+1,hlt,rfl,?_,bbi.trans b7,l7⟩;first|rfl|exact Cb (Value.int .i64) hwi
  .obtain rfl:i=A6.length:=Nat.le_antisymm hi (Nat.le_of_not_lt hlt);gi_wp2
   go_end0
   exact⟨⟨_,rfl⟩,li,bbi⟩
def aBl{w0:World}{g gn off n cap:Nat}{c x:Int}{A6:List (List Aa)}(T:g<w0.heap.size)(Ŗ:gn<w0.heap.size)(hc:w0.cell? ⟨g,0,none⟩=some (.slice (some ⟨gn,off,none⟩) n cap))(Pl:n<=cap)(hm:cap<=maxLen)
  (OX:1<=x) (cN:x<=n) (Z4:w0.cell? ⟨gn,off+(x.toNat-1)*13+11,none⟩=some (.int .i64 c)) (hk:cP w0 gn (off+(x.toNat-1)*13+2) A6)
  {d:Nat} (hd:d<=1000) {DW h s:Ao}
  (wB:∀W,Below w0.heap.size w0 W->Calls Proofs.Tryz.prog 156 #[.pointer (some ⟨gn,off+(x.toNat-1)*13,none⟩)] W λe W'=>e= .returned (.string ⟨⟨s⟩⟩)/\Below W.heap.size W W')
  (hlen:(DW++List.replicate (2*d) 32++s++[10]).length<=AM)
  (wC:(c=0/\h=DW++List.replicate (2*d) 32++s++[10])\/(c≠0/\jk g w0 c (d+1) (DW++List.replicate (2*d) 32++s++[10]) h))
  (f:Nat->Ao) (o8:f 0=h) (hf:∀i,i<A6.length->∃y,A6[i]?=some [.int .i64 y]/\jk g w0 y (d+1) (f i) (f (i+1))):
  jk g w0 x d DW (f A6.length):=by
 intro B b W hB a hb F;obtain⟨p,O,YW,YP,pA,ze⟩:=zh hk;have ņ:AM=140737488355328:=rfl;simp only[Aw,FT,A9,BP] at hlen;have N:2*d<=140737488355328:=by rw[ņ] at hlen;omega
 have M:(Lib.byteCells DW).length+(⟨(List.replicate (2*d) (32:UInt8)).toArray⟩:ByteArray).size<=140737488355328:=by rw[ņ] at hlen;rw[byteCells_length];simp only[ByteArray.size,B7,FT];omega
 have L:(Lib.byteCells (DW++List.replicate (2*d) 32)).length+(⟨⟨s⟩⟩:ByteArray).size<=140737488355328:=by rw[ņ] at hlen;rw[byteCells_length];simp only[ByteArray.size,Aw,FT];show _+s.length<=_;omega
 have K:(Lib.byteCells (DW++List.replicate (2*d) 32++s)).length+1<=140737488355328:=by rw[ņ] at hlen;rw[byteCells_length];simp only[Aw,FT];omega
 have J:d<=9223372036854775807:=Bu hd AX;clear hlen ņ;have Hline:=dh wB;have m:=dh wC;have R:=dh hf;have u:=dh ze;have z:=dh YP;have w:=dh pA;clear wB wC hf ze hk YP pA;refine(callsIn_wide (n:=5)).1 ?_;refine callsIn_of_wp Proofs.Tryz.func55 rfl trivial ?_ rfl;simp only[Proofs.Tryz.ntmps55,B7,A9,BP,Nat.reduceAdd,Nat.reduceSub,Kr,Ks,MF,KT,BQ,CJ];gi_wp2
 refine⟨trivial,(callsIn_wide.2 (aEH g gn off n cap x _ (Mh hb hc) OX cN Pl hm)).mono ?_⟩;rintro e w' ⟨rfl,rfl⟩;gi_wp2
 refine⟨trivial,(callsIn_wide.2 (Proofs.Tryz.strings_Repeat ⟨#[32,32]⟩ d _ J N)).mono ?_⟩;rintro e W1 ⟨rfl,b1⟩;have Tc:Below w0.heap.size w0 W1:=hb.trans (b1.mono hb.size);have t:Below B W W1:=b1.mono a;have l1:=OK F b1;have hr:(Lib.repeatL (⟨#[32,32]⟩:ByteArray).data.toList d)=List.replicate (2*d) 32:=qZ d;rw[hr];gi_wp2
 refine⟨trivial,(callsIn_wide.2 (Proofs.Tryz.Builder_WriteString B b (Lib.byteCells DW) _ _ l1 M (Bu a t.size))).mono ?_⟩;rintro e X ⟨rfl,D,b2⟩;rw[lW,<-KK] at D;have r:=t.trans b2;have NZ:Below w0.heap.size w0 X:=Tc.trans (b2.mono hB);gi_wp2
 refine⟨trivial,(callsIn_wide.2 (Hline.out _ NZ)).mono ?_⟩;rintro e W3 ⟨rfl,b3⟩;have jl:Below w0.heap.size w0 W3:=NZ.trans (b3.mono NZ.size);have q:Below B W W3:=r.trans (b3.mono (Bu a r.size));have l3:=OK (.inr D) b3;gi_wp2
 refine⟨trivial,(callsIn_wide.2 (Proofs.Tryz.Builder_WriteString B b _ _ _ l3 L (Bu a q.size))).mono ?_⟩;rintro e V ⟨rfl,l4,b4⟩;rw[cQ,<-KK] at l4;have o:=q.trans b4;have H:Below w0.heap.size w0 V:=jl.trans (b4.mono hB);gi_wp2
 refine⟨trivial,(callsIn_wide.2 (Proofs.Tryz.Builder_WriteByte B b _ 10 _ (.inr l4) K (Bu a o.size))).mono ?_⟩;rintro e Q ⟨rfl,A,b5⟩;have I:Lib.byteCells (DW++List.replicate (2*d) 32++s)++[Value.int .u8 10]=Lib.byteCells (DW++List.replicate (2*d) 32++s++[10]):=by rw[KK (DW++List.replicate (2*d) 32++s) [10]];rfl
 replace A:=I▸A;have l:=o.trans b5;have j:Below w0.heap.size w0 Q:=H.trans (b5.mono hB);have Y:=Mh j Z4;clear Pl hm OX cN hc N M L K J l1 l3 l4 D;rcases m.out with⟨rfl,rfl⟩|⟨E,pg⟩
 .have k:=l;have l6:Lib.IsBuilder 99 5 B b (Lib.byteCells (f 0)) Q:=by rw[o8];exact .inr A
  have U:=Mh j YW;gi_wp2
  exact pd hB a hb hd z.out w.out u.out f R.out k l6 _ _ _ _ _ _ _ _ _ _ _ _ _ _ _ _ _ _ _ _ _ _ _ _ _ _ _ _ _ _ _ _ _ _ _ _ _ _ _ _ _ _ _ _ _ _ _ _ _ _ _ _ _
 .have hne:(c != 0)=true:=by simp[E]
  have S:=Z3 d hd;have aEK:=pg B b _ hB (Bu a l.size) j (.inr A);rw[show((d+1:Nat):Int)=(d:Int)+1 from rfl] at aEK;gi_wp2
  refine⟨trivial,(callsIn_wide.2 aEK).mono ?_⟩;rintro e P ⟨⟨v,rfl⟩,C,b6⟩;have k:=l.trans b6;have G:Below w0.heap.size w0 P:=j.trans (b6.mono hB);have l6:Lib.IsBuilder 99 5 B b (Lib.byteCells (f 0)) P:=by rw[o8];exact C
  have U:=Mh G YW;gi_wp2
  exact pd hB a hb hd z.out w.out u.out f R.out k l6 _ _ _ _ _ _ _ _ _ _ _ _ _ _ _ _ _ _ _ _ _ _ _ _ _ _ _ _ _ _ _ _ _ _ _ _ _ _ _ _ _ _ _ _ _ _ _ _ _ _ _ _ _
section
variable{U:Gh}{h:Ah}{w0:World}
abbrev aBn(fuel d:Nat)(a:Aa):List Aa->(Ao->IT)->Ao->IT:=λMK K DW=>match MK with
 |[.int .i64 y]=>HT 156 a fuel y (d+1) DW K
 |_=> .fail
def lX{run:IT->Ah->Option J6}{g fuel d:Nat}{a:Aa}(ih:∀(x:Int) (DW:Ao) (k:Ao->IT) (res:J6),IT.step (Ca cx) run (HT 156 a fuel x (d+1) DW k) h=some res->∃Rj,IT.step (Ca cx) run (k Rj) h=some res/\jk g w0 x (d+1) DW Rj):
  ∀(A6:List (List Aa)) (DW:Ao) (k:Ao->IT) (res:J6),IT.step (Ca cx) run (A6.foldr (aBn fuel d a) k DW) h=some res->
   ∃f:Nat->Ao,f 0=DW/\IT.step (Ca cx) run (k (f A6.length)) h=some res/\∀i,i<A6.length->∃y,A6[i]?=some [.int .i64 y]/\jk g w0 y (d+1) (f i) (f (i+1))
 |[],DW,k,res,e=>⟨λ_=>DW,rfl,e,λi hi=>by simp at hi⟩
 |MK::A6,DW,k,res,e=>by
  simp only[List.foldr_cons] at e;unfold aBn at e;split at e
  .rename_i y;obtain⟨b,j,l⟩:=ih _ _ _ _ e;obtain⟨f,f0,f1,f2⟩:=lX ih A6 b k res j;refine⟨λ|0=>DW|i+1=>f i,rfl,f1,λi hi=>?_⟩;cases i with
   |zero=>
    have hc:jk g w0 y (d+1) DW (f 0):=by rw[f0];exact l
    exact⟨y,rfl,hc⟩
   |succ i=>obtain⟨c,p,q⟩:=f2 i (by simpa using hi);exact⟨c,by simpa using p,q⟩
  .cases e
def ph{run:IT->Ah->Option J6}{a:Aa}{x:Int}{d:Nat}{DW:Ao}{k:Ao->IT}{res:J6}(fuel:Nat)(e:IT.step (Ca cx) run (HT 156 a fuel x d DW k) h=some res):∃id,a= .ptr (some (id,0)):=by
 cases fuel with
 |zero=>simp[HT,IT.step] at e
 |succ fuel=>
  simp only[HT,IT.step,E4] at e;cases e0:db h [a,.int .i64 x] with
  |none=>simp[e0] at e
  |some b=>
   unfold db at e0;split at e0;.rename_i id x' Ku;cases Ku;exact⟨id,rfl⟩
   .cases e0
def lY{n:Nat}(hs:Fe cx (IT.run (Ca cx) n))(hi:Hk U h w0)(hg:∀g cs,cx.GZ g=some cs->C1 U cs g 0){id g:Nat}(hm:U.mu id=some g):
  ∀(fuel:Nat) (x:Int) (d:Nat) (DW:Ao) (k:Ao->IT) (res:J6),d+fuel<=1000->IT.step (Ca cx) (IT.run (Ca cx) n) (HT 156 (.ptr (some (id,0))) fuel x d DW k) h=some res->
   ∃Rj,IT.step (Ca cx) (IT.run (Ca cx) n) (k Rj) h=some res/\jk g w0 x d DW Rj/\∃p cap ln,w0.cell? ⟨g,0,none⟩=some (.slice p ln cap)/\1<=x/\x<=ln
 |0,x,d,DW,k,res,_,e=>by simp[HT,IT.step] at e
 |fuel+1,x,d,DW,k,res,hd,e=>by
  simp only[HT,IT.step,E4] at e;cases e0:db h [.ptr (some (id,0)),.int .i64 x] with
  |none=>simp[e0] at e
  |some o=>
  obtain⟨h1,r⟩:=o;simp only[e0] at e;obtain⟨l,gn,off,u,cap,row,c,A6,rfl,i,Ŗ,hc,Pl,kD,OX,cN,hrow,Z4,hk⟩:=o_ hi hm e0;simp only[IT.step] at e;rw[l] at e;clear l;cases j:IT.run (Ca cx) n (Ca cx 156 [.CG row]) [] with
  |none=>simp[j] at e
  |some v=>
  simp only[j] at e;split at e
  .rename_i t Ł Ku;cases Ku;split at e
   .split at e
    .rename_i s Ho;split at e
     .rename_i hlen;have ih:∀(x:Int) (DW:Ao) (k:Ao->IT) (res:J6),IT.step (Ca cx) (IT.run (Ca cx) n) (HT 156 (.ptr (some (id,0))) fuel x (d+1) DW k) h=some res->∃Rj,IT.step (Ca cx) (IT.run (Ca cx) n) (k Rj) h=some res/\jk g w0 x (d+1) DW Rj:=λx DW k res e=>by obtain⟨Rj,p,q,_⟩:=lY hs hi hg hm fuel x (d+1) DW k res Ab e;exact⟨Rj,p,q⟩
      have wB:∀W,Below w0.heap.size w0 W->Calls Proofs.Tryz.prog 156 #[.pointer (some ⟨gn,off+(x.toNat-1)*13,none⟩)] W λe W'=>e= .returned (.string ⟨⟨s⟩⟩)/\Below W.heap.size W W':=
       λW hb=>zg hs hi hg j hb hrow
      have HC:∀a,((c=0/\a=DW++List.replicate (2*d) 32++s++[10])\/(c≠0/\jk g w0 c (d+1) (DW++List.replicate (2*d) 32++s++[10]) a))->
        IT.step (Ca cx) (IT.run (Ca cx) n) (A6.foldr (aBn fuel d (.ptr (some (id,0)))) k a) h=some res->∃Rj,IT.step (Ca cx) (IT.run (Ca cx) n) (k Rj) h=some res/\jk g w0 x d DW Rj/\∃p cap ln,w0.cell? ⟨g,0,none⟩=some (.slice p ln cap)/\1<=x/\x<=ln:=by
       intro a wC m;obtain⟨f,f0,f1,f2⟩:=lX ih A6 a k res m;exact⟨f A6.length,f1,aBl i Ŗ hc Pl kD OX cN Z4 hk Ab wB hlen wC f f0 f2,_,_,_,hc,OX,cN⟩
      split at e;.rename_i b;exact HC _ (.inl ⟨b,rfl⟩) e
      .rename_i b;obtain⟨a,p,q⟩:=ih _ _ _ _ e;exact HC a (.inr ⟨b,q⟩) p
     .cases e
    .cases e
   .cases e
  .cases e
end
def aBo{w0:World}{g ln cap:Nat}{p:Option Addr}{x:Int}{s:Ao}(b:g<w0.heap.size)(hc:w0.cell? ⟨g,0,none⟩=some (.slice p ln cap))(OX:1<=x)(cN:x<=ln)(pg:jk g w0 x 0 [] s):
  Calls Proofs.Tryz.prog 21 #[.pointer (some ⟨g,0,none⟩),.int .i64 x] w0 λe w'=>e= .returned (.string ⟨⟨s⟩⟩)/\Below w0.heap.size w0 w':=by
 have c:decide (1<=x/\x<=ln)=true:=AA ⟨OX,cN⟩;have aJN:(w0.alloc (.cells #[.pointer none,.slice none 0 0] 99)).heap[w0.heap.size]?=some (.cells #[.pointer none,.slice none 0 0] 99 (0,0)):=World.alloc_heap_new w0 _;have Tc:Below w0.heap.size w0 (w0.alloc (.cells #[.pointer none,.slice none 0 0] 99)):=(Below.refl _ w0).alloc (Ag _) _;have l1:Lib.IsBuilder 99 5 w0.heap.size w0.heap.size (Lib.byteCells []) (w0.alloc (.cells #[.pointer none,.slice none 0 0] 99)):=
  .inl ⟨Ag _,.slice none 0 0,aJN,World.ownsRow_nil _ _ _ _,by simp[Value.ownBlock]⟩
 have Vz:=pg w0.heap.size w0.heap.size _ (Ag _) AH Tc l1;rw[show((0:Nat):Int)=0 from rfl] at Vz;refine(callsIn_wide (n:=5)).1 ?_;refine callsIn_of_wp Proofs.Tryz.func21 rfl trivial ?_ rfl;simp only[Proofs.Tryz.ntmps21,B7,A9,BP,Nat.reduceAdd,Nat.reduceSub,Kr,Ks,MF,KT,BQ,CJ];gi_wp2
 refine⟨trivial,(callsIn_wide.2 (Z0 g _ ln cap x _ hc)).mono ?_⟩;rintro e w' ⟨rfl,rfl⟩;rw[c];gi_wp2
 refine⟨trivial,(callsIn_wide.2 Vz).mono ?_⟩;rintro e d ⟨⟨v,rfl⟩,a,b2⟩;gi_wp2
 refine⟨trivial,(callsIn_wide.2 (Proofs.Tryz.Builder_String_any w0.heap.size w0.heap.size s _ a (by have:=b2.size;have:=Tc.size;omega))).mono ?_⟩;rintro e W3 ⟨rfl,b3⟩;gi_wp2
 refine bodyPost_ret (results_tmp rfl _ _ _) rfl ?_;exact⟨rfl,(Tc.trans b2).trans b3⟩
def aBp{h:Ah}(n:Nat)(hs:Fe cx (IT.run (Ca cx) n))(args:List Aa)(r:Aa)(h':Ah)(A0:IT.step (Ca cx) (IT.run (Ca cx) n) (vY 156 args) h=some (.ret,[r],h')):
  (∃fn c,cx.P.funcs[Ez 21]?=some fn/\(fn.name== "runtime.NumGoroutine")=false/\fn.body=some c)/\
  ∀(U:Gh) (w:World) (cargs:Array Value),Hk U h w->(∀g cs,cx.GZ g=some cs->C1 U cs g 0)->Bg U args cargs.toList->
   Calls cx.P (Ez 21) cargs w λe w'=>match e with
    | .returned v=>∃d,Hk d h' w'/\Ld U w d w'/\BO d r v/\(cx.Jh 21=true->∃s c,IU d w.heap.size w' s c v r)
    |_=>False:=by
 refine⟨⟨_,_,Proofs.Tryz.func21,rfl,rfl⟩,λU w cargs hi hg ha=>?_⟩;have aJO:∃id x,args=[.ptr (some (id,0)),.int .i64 x]:=by
  unfold vY at A0;split at A0;.rename_i a x;obtain⟨id,rfl⟩:=ph _ A0;exact⟨id,x,rfl⟩
  .cases A0
 obtain⟨id,x,rfl⟩:=aJO;obtain⟨v0,us,ň,⟨g,hm,rfl⟩,j,f,rfl,rfl,hnil⟩:=ha;cases hnil;have b:cargs=#[.pointer (some ⟨g,0,none⟩),.int .i64 x]:=by apply HB;simpa using ň
 subst b;simp only[vY] at A0;obtain⟨DW,i,pg,p,cap,ln,hc,OX,cN⟩:=lY hs hi hg hm 100 x 0 [] _ _ Ab A0;cases i;refine(aBo (DM hc) hc OX cN pg).mono λe w' he=>?_;obtain⟨rfl,hb⟩:=he;obtain⟨VA,OV⟩:=hi.Li hb;exact⟨U,VA,OV,rfl,λe=>by cases e⟩
end Go.Am
end
section
namespace Go.Am
open Go
def zi:cE cx:=by
 refine⟨λf hf=>?_,λf p hp n hs args h r h' A0=>?_⟩
 .simp only[cx,aEt] at hf;split at hf;.exact dg
  .cases hf
 .simp only[cx,œ] at hp;split at hp;.cases hp;exact aBp n hs args r h' A0
  .cases hp;exact aBb n args r h' A0
  .cases hp;exact zf n args r h' A0
  .cases hp;exact zd n hs args r h' A0
  .cases hp
end Go.Am
end
