/- Lemmas -/
import Derived.Test.YtkaolmlpcamojaaGreatDoorH15
import Derived.RangeFuncBox
import Derived.OwnWalkIn
import Derived.TacticsInMore
import Derived.LoopNIn
import Derived.Sort.LoopGhostIn
set_option linter.all false
set_option maxHeartbeats 0
set_option maxRecDepth 100000
section
namespace Go.Am
open Go Go.RowKit Go.Shelf
def bV(ga:Nat)(p:Option Addr)(n cap:Nat)(x:Int)(w:World)(hc:w.cell? ⟨ga,0,none⟩=some (.slice p n cap)):
  Calls Proofs.Tryz.prog 54 #[.pointer (some ⟨ga,0,none⟩),.int .i64 x] w λe w'=>e= .returned (.bool (decide (1<=x/\x<=n)))/\w=w':=by
 go_enter Proofs.Tryz.func54,Proofs.Tryz.ntmps54
 go_wp2
 all_goals refine bodyPost_ret (results_tmp rfl _ _ _) rfl ?_
 all_goals simp_all
 all_goals omega
def aGX(ga gn off n cap:Nat)(x:Int)(w:World)(hc:w.cell? ⟨ga,0,none⟩=some (.slice (some ⟨gn,off,none⟩) n cap))(h1:1<=x)(h2:x<=n)(P1:n<=cap)(hm:cap<=maxLen):
  Calls Proofs.Tryz.prog 153 #[.pointer (some ⟨ga,0,none⟩),.int .i64 x] w λe w'=>e= .returned (.pointer (some ⟨gn,off+(x.toNat-1)*13,none⟩))/\w=w':=by
 have hb:maxLen<=9223372036854775807:=AP;have hw:wrap64 (x-1)=x-1:=Go.IntWalk.wrap64_in _ ⟨Ac,Ac⟩;go_enter Proofs.Tryz.func153,Proofs.Tryz.ntmps153
 go_wp2
 all_goals refine bodyPost_ret (results_tmp rfl _ _ _) rfl ?_
 all_goals exact⟨rfl,rfl⟩
def aGY(ga:Nat)(x:Int)(w:World):
  Calls Proofs.Tryz.prog 362 #[.pointer (some ⟨ga,0,none⟩),.int .i64 x,.bool true] w λe w'=>e= .returned (.func (.func 415) #[] #[.pointer (some ⟨w.heap.size+1,0,none⟩),.pointer (some ⟨w.heap.size,0,none⟩),.pointer (some ⟨w.heap.size+1+1,0,none⟩)])/\
   w'=((w.alloc (.cells #[.pointer (some ⟨ga,0,none⟩)] 60)).alloc (.cells #[.int .i64 x] 3)).alloc (.cells #[.bool true] 4):=by
 have a:∀(fn:Fn) (first cap:Array Value) (w:World),(Instr.makeFunc fn first cap).run Proofs.Tryz.prog w= .ok (.func fn first cap) w:=λ_ _ _ _=>rfl;go_enter Proofs.Tryz.func362,Proofs.Tryz.ntmps362
 go_wp2
 go_ret
 exact⟨rfl,rfl⟩
def uM{cs:List Aa}{off n:Nat}{up:Int}{k:Nat}{b:Bool}(h:Md cs off n up k 0=some b):b=false:=by cases k<;>simp[Md] at h<;>exact h
def uN{cs:List Aa}{off n:Nat}{up x:Int}{k:Nat}{b:Bool}(h:Md cs off n up k x=some b)(hx:x≠0):∃k',k=k'+1/\
  ((x=up/\b=true)\/(x≠up/\1<=x/\x<=n/\∃p q,Ha cs off x 1=some p/\Ha cs off x 12=some q/\Md cs off n up k' (if p=0 then q else p)=some b)):=by
 cases k with
 |zero=>
  rw[Md] at h;. cases h
  .exact λe=>hx e
 |succ k=>
  refine⟨k,rfl,?_⟩;rw[Md] at h
  .split at h;.rename_i e;cases h;exact .inl ⟨e,rfl⟩
   .rename_i e;split at h
    .rename_i hr;split at h;.rename_i p q c a;exact .inr ⟨e,hr.1,hr.2,p,q,c,a,h⟩
     .cases h
    .cases h
  .exact λe=>hx e
structure oY(Ba Bo ga gn off n cap:Nat)(cs:List Aa)(W:World):Prop where
 a:W.cell? ⟨Ba,0,none⟩=some (.pointer (some ⟨ga,0,none⟩))
 o:W.cell? ⟨Bo,0,none⟩=some (.bool true)
 c:W.cell? ⟨ga,0,none⟩=some (.slice (some ⟨gn,off,none⟩) n cap)
 x:∀(h:Int) (k:Nat) (v:Int),1<=h->h<=n->(k=1\/k=12)->Ha cs off h k=some v->W.cell? ⟨gn,off+(h.toNat-1)*13+k,none⟩=some (.int .i64 v)
def oY.OI{Ba Bo ga gn off n cap:Nat}{cs:List Aa}{A B:World}(h:oY Ba Bo ga gn off n cap cs A)(hk:∀b,b=Ba\/b=Bo\/b=ga\/b=gn->B.heap[b]?=A.heap[b]?):oY Ba Bo ga gn off n cap cs B:=
 ⟨by rw[CU (hk _ AH)];exact h.a,by rw[CU (hk _ AH)];exact h.o,by rw[CU (hk _ AH)];exact h.c,
  λx k v h1 h2 e d=>by rw[CU (hk _ AH)];exact h.x x k v h1 h2 e d⟩
def zS{Ba Bo ga gn off n cap a:Nat}{cs:List Aa}{A:World}{u:Value}{J:World->Prop}(c:∀A B row,J A->A.grownBy B row->(∀r,row=some r->r=a)->J B)
  (hd:∀b,b=Ba\/b=Bo\/b=ga\/b=gn->b≠a) (hs:oY Ba Bo ga gn off n cap cs A) (hc:A.cell? ⟨a,0,none⟩=some u) (hf:A.frozen? ⟨a,0,none⟩=false) (hj:J A) (v:Value):
  oY Ba Bo ga gn off n cap cs (A.setCell ⟨a,0,none⟩ v)/\(A.setCell ⟨a,0,none⟩ v).cell? ⟨a,0,none⟩=some v/\(A.setCell ⟨a,0,none⟩ v).frozen? ⟨a,0,none⟩=false/\J (A.setCell ⟨a,0,none⟩ v):=
 ⟨hs.OI λb hb=>Below.heap_setCell _ _ _ b (hd b hb),World.cell?_setCell_same _ _ _ hc,by rw[World.frozen?_setCell];exact hf,c _ _ _ hj (grownBy_setCell' A a v) λr e=>by cases e;rfl⟩
def aGZ(m l d Ba Bo n₁ ga gn off n cap:Nat)(cs:List Aa)(up:Int)(J F:World->Prop)
  (D:∀A B row,J A->A.grownBy B row->(∀r,row=some r->r=d)->J B)
  (M:∀x W,J W->YieldAt Fence.wide (m-1) Proofs.Tryz.prog l #[.int .i64 x] W λe W'=>(e= .returned (.bool true)/\J W'/\Below n₁ W W'/\x≠up)\/(e= .returned (.bool false)/\F W'/\x=up))
  (hd:∀b,b=Ba\/b=Bo\/b=ga\/b=gn->b<n₁/\b≠d) (j:d<n₁) (P1:n<=cap) (hm:cap<=maxLen)
  (W:World) (s:Int) (hs:oY Ba Bo ga gn off n cap cs W) (u:W.cell? ⟨d,0,none⟩=some (.int .i64 s)) (hf:W.frozen? ⟨d,0,none⟩=false)
  (fuel:Nat) (b:Bool) (hcl:Md cs off n up fuel s=some b) (h0:J W):
  CallsIn Fence.wide m Proofs.Tryz.prog 415 #[.func (.yield l) #[] #[],.pointer (some ⟨d,0,none⟩),.pointer (some ⟨Ba,0,none⟩),.pointer (some ⟨Bo,0,none⟩)] W λe W'=>(∃v,e= .returned v)/\((b=false/\J W')\/(b=true/\F W')):=by
 refine callsIn_of_wp Proofs.Tryz.func415 rfl trivial ?_ rfl;simp only[Proofs.Tryz.ntmps415,B9,Bd,BR,Nat.reduceAdd,Nat.reduceSub,KO,KP,M7,Lp,BT,Cs];gi_wp2
 gi_loopg [] fuel (λk wr=>∃x,Md cs off n up k x=some b/\oY Ba Bo ga gn off n cap cs wr/\wr.cell? ⟨d,0,none⟩=some (.int .i64 x)/\wr.frozen? ⟨d,0,none⟩=false/\J wr)
 case atStart=>exact⟨s,hcl,hs,u,hf,h0⟩
 case round=>
  obtain⟨x,hcl,hs,u,hf,hj⟩:=hrel;by_cases hx:x=0
  .subst hx;have:=uM hcl;subst this;gi_wp2
   refine⟨nofun,?_⟩;gi_wp2
   go_end0
   exact⟨⟨_,rfl⟩,hj⟩
  .obtain⟨k',rfl,Jk⟩:=uN hcl hx;have hne:(x != 0)=true:=by simp[hx]
   obtain⟨fn,tmps,assign,body,hy,hR⟩:=M x wr hj;gi_wp2
   refine⟨nofun,?_⟩;refine hR.mono ?_;rintro e W3 (⟨rfl,y,sP,g⟩|⟨rfl,i,g⟩)
   .rcases Jk with⟨rfl,_⟩|⟨_,h1,h2,p,q,O,N,aDm⟩
    .exact absurd rfl g
    have f:=hs.OI λb hb=>sP.block b (hd b hb).1;have t:W3.cell? ⟨d,0,none⟩=some (.int .i64 x):=by rw[CU (sP.block d j)];exact u
    have w:W3.frozen? ⟨d,0,none⟩=false:=by rw[<-hf];simp only[World.frozen?,sP.block d j]
    have hp:=f.x x 1 p h1 h2 (.inl rfl) O;have hq:=f.x x 12 q h1 h2 (.inr rfl) N;have Q:=f.a;have P:=f.o;have I:¬Bo=d:=(hd Bo AH).2;have H:¬gn=d:=(hd gn AH).2;gi_wp2
    refine⟨trivial,nofun,(callsIn_wide.2 (aGX ga gn off n cap x _ f.c h1 h2 P1 hm)).mono ?_⟩;rintro e w' ⟨rfl,rfl⟩;obtain⟨z,E,z4,C⟩:=zS D (λb hb=>(hd b hb).2) f t w y (.int .i64 p);by_cases h:p=0
    .subst h;obtain⟨G,R,z5,K⟩:=zS D (λb hb=>(hd b hb).2) z E z4 C (.int .i64 q);gi_wp2
     gi_roundg k'
     case measure=>omega
     case rel=>exact⟨q,aDm,G,R,z5,K⟩
    .have L:(p==0)=false:=by simp[h]
     gi_wp2
     gi_roundg k'
     case measure=>omega
     case rel=>exact⟨p,by rw[Ad h] at aDm;exact aDm,z,E,z4,C⟩
   .rcases Jk with⟨_,rfl⟩|⟨aMf,_⟩
    .gi_wp2
     go_end0
     exact⟨⟨_,rfl⟩,i⟩
    .exact absurd g aMf
def aDo(n₁:Nat)(up:Int)(I a:World->Prop)(x:Int)(W:World):Exit->Act->World->Prop
 | .normal,_,W'=>KeepsOthers W W'/\Below n₁ W W'/\I W'/\x≠up
 | .ret,_,W'=>KeepsOthers W W'/\a W'/\x=up
 | .exit _,_,_=>False
 | .goto _,_,_=>False
 | .panic _,_,_=>False
 | .outgrown,_,_=>False
def fF{P:Program}{n gf:Nat}{lb:Array Value}{g:Operand}{ps:Array Tmp}{assign body:Code}{Q:Exit->Act->World->Prop}{a:Act}{w:World}(h:Nat)(b:Bool)(up:Int)
  (hg:a.eval g= .func (.func gf) #[] lb) (u:∀args w,(callFunc gf args).run P w= .ok (.enter gf args) w) (s:h<w.heap.size)
  (aDp:∀(l:Nat) (J o:World->Prop) (W:World),Below w.heap.size w W->(∀A B row,J A->A.grownBy B row->(∀r,row=some r->r=h)->J B)->
   (∀x W1,J W1->YieldAt Fence.wide (n-1 -1) P l #[.int .i64 x] W1 λe W'=>(e= .returned (.bool true)/\J W'/\Below w.heap.size W1 W'/\x≠up)\/(e= .returned (.bool false)/\o W'/\x=up))->J W->
   CallsIn Fence.wide (n-1) P gf (#[.func (.yield l) #[] #[]]++lb) W λe W'=>(∃v,e= .returned v)/\((b=false/\J W')\/(b=true/\o W')))
  (ă:ps.size=1) (I f:World->Prop) (hI:∀A B row,I A->A.grownBy B row->(∀r,row=some r->r=h\/w.heap.size<=r)->I B)
  (hIx:∀A B row,f A->A.grownBy B row->(∀r,row=some r->r=h\/w.heap.size<=r)->f B) (h0:I w) (a₁:Int->Act)
  (hassign:∀(l:Nat) (x:Int) (W:World) (K:Act->World->Prop),K (a₁ x) W->
   assign.wpIn (Fence.wide.inRound l) (n-1 -1) P (Exit.then K (λ_ _ _=>False)) {tmps:=(ps.zip #[.int .i64 x]).foldl (λt (p,v)=>t.setIfInBounds p v) a.tmps,defers:=[]} W)
  (X9:∀(l:Nat) (x:Int) (W:World),I W->body.wpIn (Fence.wide.inRound l) (n-1 -1) P (aDo w.heap.size up I f x W) (a₁ x) W)
  (wc:∀(D:Nat) (W:World),b=false->I W->W.heap[D]?=some (.deferred (some []))->w.heap.size<=D->Q .normal {a with defers:={target:= .collected D,args:=#[]}::a.defers} W)
  (we:∀(D:Nat) (W:World),b=true->f W->W.heap[D]?=some (.deferred (some []))->w.heap.size<=D->Code.ret.wpIn Fence.wide n P Q {a with defers:={target:= .collected D,args:=#[]}::a.defers} W):
  (Code.rangeFunc g ps assign body).wpIn Fence.wide n P Q a w:=by
 refine wpIn_rangeFunc ?_;intro fn þ;have hro:Fence.wide.round=none:=rfl;rw[hro];obtain⟨rec,We⟩:∃rec:LoopState->Option Code->Loop,rec=λst q=>{state:=st,pending:=q,fn,tmps:=a.tmps,params:=ps,assign,body,defers:=w.heap.size}:=⟨_,rfl⟩;obtain⟨W1,c⟩:∃W1,(w.alloc (.deferred (some []))).alloc (.loop (rec .ready none))=W1:=⟨_,rfl⟩;have i:W1.heap[w.heap.size+1]?=some (.loop (rec .ready none)):=by rw[<-c];have:=World.alloc_heap_new (w.alloc (.deferred (some []))) (.loop (rec .ready none));rwa [World.size_alloc] at this
 have j:W1.heap[w.heap.size]?=some (.deferred (some [])):=by rw[<-c];exact(Below.heap_alloc _ _ _ AH).trans (World.alloc_heap_new w _)
 have k:I W1:=by rw[<-c];exact hI _ _ none (hI _ _ none h0 (World.grownBy_alloc _ _ none) nofun) (World.grownBy_alloc _ _ none) nofun
 have TZ:Below w.heap.size w W1:=by rw[<-c];exact(((Below.refl _ w).alloc (Ag _) _).alloc AH _)
 refine⟨w.heap.size+1,[{target:= .collected w.heap.size,args:=#[]}],W1,{target:= .fn (.func gf) lb,args:=#[.func (.yield (w.heap.size+1)) #[] #[]]},W1,gf,
  #[.func (.yield (w.heap.size+1)) #[] #[]]++lb,W1,?_,?_,?_,?_,nofun,?_⟩
 .rw[<-c,We];exact run_enterLoop_outer _ _ _ _ _
 .simp only[resolve,hg];simp[go_sem]
 .intro f' vf;trivial
 .simp[invoke,go_sem,u]
 .refine(aDp (w.heap.size+1)
   (λW=>I W/\W.heap[w.heap.size+1]?=some (.loop (rec .ready none))/\W.heap[w.heap.size]?=some (.deferred (some [])))
   (λW=>f W/\W.heap[w.heap.size+1]?=some (.loop (rec .done (some .ret)))/\W.heap[w.heap.size]?=some (.deferred (some [])))
   W1 TZ
   (λA B row hs hg' hr=>⟨hI A B row hs.1 hg' (λr e=> .inl (hr r e)),(hg'.block _ (A8.1 hs.2.1).1 (λe=>by have:=hr _ e.symm;omega)).trans hs.2.1,
    (hg'.block _ (A8.1 hs.2.2).1 (λe=>by have:=hr _ e.symm;omega)).trans hs.2.2⟩)
   ?_ ⟨k,i,j⟩).mono ?_
  .rintro x W ⟨hi,hl,hk⟩;have hlt:w.heap.size+1<W.heap.size:=(A8.1 hl).1;have hy:=run_yield (P:=P) (args:=#[.int .i64 x]) hl (by rw[We];exact ă.symm);rw[We] at hy;refine⟨fn,_,assign,body,hy,roundIn_of_wpIn þ (hassign _ x W _ ⟨_,run_beginRound hl (by rw[We]),?_⟩)⟩;have bU:(W.putObj (w.heap.size+1) (.loop {rec .ready none with state:= .busy})).heap[w.heap.size+1]?=some (.loop {rec .ready none with state:= .busy}):=World.putObj_heap_same hlt;have ZN:(W.putObj (w.heap.size+1) (.loop {rec .ready none with state:= .busy})).heap[w.heap.size]?=some (.deferred (some [])):=(World.putObj_heap_other Ac).trans hk;have vd:Below w.heap.size W (W.putObj (w.heap.size+1) (.loop {rec .ready none with state:= .busy})):=belowK_b (Ag _) W _ _ _ Ac hl rfl rfl;refine wpIn_mono (X9 _ x _ (hI _ _ _ hi (grownBy_putObj' W _ _) (λr e=> .inr (by cases e;omega)))) ?_;have HN:∀(jump:Option Code) (W3:World),KeepsOthers (W.putObj (w.heap.size+1) (.loop {rec .ready none with state:= .busy})) W3->
     (Instr.endRound (w.heap.size+1) jump).run P W3= .ok (.bool jump.isNone) (W3.putObj (w.heap.size+1) (.loop (rec (if jump.isNone then .ready else .done) jump)))/\
     W3.heap[w.heap.size+1]?=some (.loop {rec .ready none with state:= .busy})/\
     (W3.putObj (w.heap.size+1) (.loop (rec (if jump.isNone then .ready else .done) jump))).heap[w.heap.size+1]?=some (.loop (rec (if jump.isNone then .ready else .done) jump))/\
     (W3.putObj (w.heap.size+1) (.loop (rec (if jump.isNone then .ready else .done) jump))).heap[w.heap.size]?=some (.deferred (some [])):=λjump W3 sP=>by
    have nE:=sP.same _ _ bU rfl;have:=run_endRound (P:=P) jump nE;rw[We] at this⊢;exact⟨this,by rw[We] at nE;exact nE,World.putObj_heap_same (A8.1 nE).1,(World.putObj_heap_other Ac).trans (sP.same _ _ ZN rfl)⟩
   rintro e a3 W3 hp;cases e with
   |normal=>obtain⟨sP,aMh,đ,hne⟩:=hp;obtain⟨hr,nE,d,ė⟩:=HN none W3 sP;exact⟨_,_,hr,.inl ⟨rfl,⟨hI _ _ _ đ (grownBy_putObj' W3 _ _) (λr e=> .inr (by cases e;omega)),d,ė⟩,(vd.trans aMh).trans (belowK_b (Ag _) W3 _ _ _ Ac nE rfl rfl),hne⟩⟩
   |ret=>obtain⟨sP,đ,he⟩:=hp;obtain⟨hr,nE,d,ė⟩:=HN (some .ret) W3 sP;exact⟨_,_,hr,.inr ⟨rfl,⟨hIx _ _ _ đ (grownBy_putObj' W3 _ _) (λr e=> .inr (by cases e;omega)),d,ė⟩,he⟩⟩
   |exit id=>exact hp.elim
   |goto t=>exact hp.elim
   |panic y=>exact hp.elim
   |outgrown=>exact hp.elim
  .rintro e m ⟨⟨v,rfl⟩,⟨hb,hi,hl,hk⟩|⟨hb,hi,hl,hk⟩⟩;.exact⟨none,_,by have:=run_endLoop (P:=P) hl (by rw[We];simp);rw[We] at this;exact this,wc _ _ hb (hI _ _ _ hi (grownBy_putObj' m _ _) (λr e=> .inr (by cases e;omega))) ((World.putObj_heap_other Ac).trans hk) (Ag _)⟩
   .exact⟨some .ret,_,by have:=run_endLoop (P:=P) hl (by rw[We];simp);rw[We] at this;exact this,we _ _ hb (hIx _ _ _ hi (grownBy_putObj' m _ _) (λr e=> .inr (by cases e;omega))) ((World.putObj_heap_other Ac).trans hk) (Ag _)⟩
def CW{W:World}{k j:Nat}{v:Value}(o:Obj)(h:W.cell? ⟨k,j,none⟩=some v):(W.alloc o).cell? ⟨k,j,none⟩=some v:=by rw[World.cell?_alloc_past _ _ _ (DS h)];exact h
def Lx{W:World}{k j:Nat}{v:Value}(o:Obj)(h:W.cell? ⟨k,j,none⟩=some v):(W.alloc o).frozen? ⟨k,j,none⟩=W.frozen? ⟨k,j,none⟩:=
 World.frozen?_alloc_past _ _ _ (DS h)
def Mt(W:World)(v:Value)(t:TypeId):(W.alloc (.cells #[v] t)).cell? ⟨W.heap.size,0,none⟩=some v/\(W.alloc (.cells #[v] t)).frozen? ⟨W.heap.size,0,none⟩=false:=by
 have h:(W.alloc (.cells #[v] t)).heap[W.heap.size]?=some (.cells #[v] t (0,0)):=World.alloc_heap_new W _;constructor;.simp only[World.cell?,h];rfl
 .simp only[World.frozen?,h];rfl
def Ye{A B:World}{row:Option Nat}{k:Nat}{v:Value}(h:A.cell? ⟨k,0,none⟩=some v)(hg:A.grownBy B row)(hr:∀r,row=some r->k≠r):
  B.cell? ⟨k,0,none⟩=some v/\B.frozen? ⟨k,0,none⟩=A.frozen? ⟨k,0,none⟩:=by
 have hb:B.heap[k]?=A.heap[k]?:=hg.block k (DS h) (λe=>hr k e.symm rfl);exact⟨by rw[CU hb];exact h,by simp only[World.frozen?,hb]⟩
def aDq(ga gn off n cap:Nat)(cs:List Aa)(up x:Int)(w:World)(o:ga<w.heap.size)(E:gn<w.heap.size)(P1:n<=cap)(hm:cap<=maxLen)
  (hc:w.cell? ⟨ga,0,none⟩=some (.slice (some ⟨gn,off,none⟩) n cap))
  (hx:∀(h:Int) (k:Nat) (v:Int),1<=h->h<=n->(k=1\/k=12)->Ha cs off h k=some v->w.cell? ⟨gn,off+(h.toNat-1)*13+k,none⟩=some (.int .i64 v))
  (b:Bool) (hcl:Md cs off n up (n+1) x=some b) (Py:1<=up) (IG:up<=n) (PD:1<=x) (fG:x<=n):
  Calls Proofs.Tryz.prog 237 #[.pointer (some ⟨ga,0,none⟩),.int .i64 up,.int .i64 x] w λe w'=>e= .returned (.bool b)/\Below w.heap.size w w':=by
 refine(callsIn_wide (n:=5)).1 ?_;refine callsIn_of_wp_marks Proofs.Tryz.func237 rfl trivial ?_;simp only[Proofs.Tryz.ntmps237,B9,Bd,BR,Nat.reduceAdd,Nat.reduceSub,KO,KP,M7,Lp,BT,Cs];have s:((w.alloc (.cells #[.int .i64 up] 3)).alloc (.cells #[.bool false] 4)).cell? ⟨ga,0,none⟩=some (.slice (some ⟨gn,off,none⟩) n cap):=by rw[World.cell?_alloc_past _ _ _ Ei,World.cell?_alloc_past _ _ _ o];exact hc
 have z:=Mt w (.int .i64 up) 3;have d:=Mt (w.alloc (.cells #[.int .i64 up] 3)) (.bool false) 4;have u:=Mt ((w.alloc (.cells #[.int .i64 up] 3)).alloc (.cells #[.bool false] 4)) (.pointer (some ⟨ga,0,none⟩)) 60;have i:=Mt (((w.alloc (.cells #[.int .i64 up] 3)).alloc (.cells #[.bool false] 4)).alloc (.cells #[.pointer (some ⟨ga,0,none⟩)] 60)) (.int .i64 x) 3;have t:=Mt ((((w.alloc (.cells #[.int .i64 up] 3)).alloc (.cells #[.bool false] 4)).alloc (.cells #[.pointer (some ⟨ga,0,none⟩)] 60)).alloc (.cells #[.int .i64 x] 3)) (.bool true) 4;simp only[World.size_alloc] at d u i t;have I:decide (1<=up/\up<=n)=true:=Al ⟨Py,IG⟩;have H:decide (1<=x/\x<=n)=true:=Al ⟨PD,fG⟩;gi_wp2
 refine⟨trivial,(callsIn_wide.2 (bV ga _ n cap up _ s)).mono ?_⟩;rintro e w' ⟨rfl,rfl⟩;rw[I];gi_wp2
 refine⟨trivial,(callsIn_wide.2 (bV ga _ n cap x _ s)).mono ?_⟩;rintro e w' ⟨rfl,rfl⟩;rw[H];gi_wp2
 refine⟨trivial,(callsIn_wide.2 (aGY ga x _)).mono ?_⟩;rintro e w' ⟨rfl,rfl⟩;gi_wp2
 refine fF (gf:=415) (lb:=#[.pointer (some ⟨w.heap.size+1+1+1,0,none⟩),.pointer (some ⟨w.heap.size+1+1,0,none⟩),.pointer (some ⟨w.heap.size+1+1+1+1,0,none⟩)]) (w.heap.size+1+1+1) b up rfl (Go.Proofs.enters_of Proofs.Tryz.func415 Dg rfl) AH
  ?aDp rfl
  (λW=>Below w.heap.size w W/\W.cell? ⟨w.heap.size,0,none⟩=some (.int .i64 up)/\W.cell? ⟨w.heap.size+1,0,none⟩=some (.bool false)/\W.frozen? ⟨w.heap.size+1,0,none⟩=false)
  (λW=>Below w.heap.size w W/\W.cell? ⟨w.heap.size+1,0,none⟩=some (.bool true)) ?hI ?hIx ?h0
  (λy=>{tmps:=#[.pointer (some ⟨ga,0,none⟩),.int .i64 up,.int .i64 x,undef,.pointer (some ⟨w.heap.size,0,none⟩),undef,.pointer (some ⟨w.heap.size+1,0,none⟩),.int .i64 y,.pointer (some ⟨ga,0,none⟩),.int .i64 up,.bool true,.bool false,.bool false,.pointer (some ⟨ga,0,none⟩),.int .i64 x,.bool true,.bool false,.bool false,.pointer (some ⟨ga,0,none⟩),.int .i64 x,.func (.func 415) #[] #[.pointer (some ⟨w.heap.size+1+1+1,0,none⟩),.pointer (some ⟨w.heap.size+1+1,0,none⟩),.pointer (some ⟨w.heap.size+1+1+1+1,0,none⟩)],.int .i64 y,undef,undef,undef],defers:=[]})
  ?hassign ?X9 ?wc ?we
 case hI=>rintro A B row ⟨h1,h2,c,q⟩ hg hr;have J9:=DS c;have C:=Ye h2 hg (λr e=>by rcases hr r e with rfl|h<;>simp at* <;>omega);have m:=Ye c hg (λr e=>by rcases hr r e with rfl|h<;>simp at* <;>omega);exact⟨h1.grown hg Ac (λk e=>by rcases hr k e with rfl|h<;>simp at* <;>omega),C.1,m.1,m.2.trans q⟩
 case hIx=>rintro A B row ⟨h1,c⟩ hg hr;have J9:=DS c;have m:=Ye c hg (λr e=>by rcases hr r e with rfl|h<;>simp at* <;>omega);exact⟨h1.grown hg Ac (λk e=>by rcases hr k e with rfl|h<;>simp at* <;>omega),m.1⟩
 case h0=>
  refine⟨(((((Below.refl _ w).alloc (Ag _) _).alloc AH _).alloc Ei _).alloc Ei _).alloc Ei _,?_,?_,?_⟩;.exact CW _ (CW _ (CW _ (CW _ z.1)))
  .exact CW _ (CW _ (CW _ d.1))
  .rw[Lx _ (CW _ (CW _ d.1)),Lx _ (CW _ d.1),Lx _ d.1];exact d.2
 case aDp=>
  intro l J L W hW G F hj;have kk:∀{k j:Nat} {v:Value},(((((w.alloc (.cells #[.int .i64 up] 3)).alloc (.cells #[.bool false] 4)).alloc (.cells #[.pointer (some ⟨ga,0,none⟩)] 60)).alloc (.cells #[.int .i64 x] 3)).alloc (.cells #[.bool true] 4)).cell? ⟨k,j,none⟩=some v->W.cell? ⟨k,j,none⟩=some v:=
   λ{k j v} h=>by rw[CU (hW.block k (DS h))];exact h
  have hs:oY (w.heap.size+1+1) (w.heap.size+1+1+1+1) ga gn off n cap cs W:=
   ⟨kk (CW _ (CW _ u.1)),kk t.1,kk (CW _ (CW _ (CW _ s))),λh k v h1 h2 c q=>kk (CW _ (CW _ (CW _ (CW _ (CW _ (hx h k v h1 h2 c q))))))⟩
  refine aGZ 4 l (w.heap.size+1+1+1) (w.heap.size+1+1) (w.heap.size+1+1+1+1) _ ga gn off n cap cs up J L G F ?_ AH P1 hm W x hs (kk (CW _ i.1)) ?_ (n+1) b hcl hj;.rintro b (rfl|rfl|rfl|rfl)<;>simp<;>omega
  .have:W.frozen? ⟨w.heap.size+1+1+1,0,none⟩=_:=World.frozen?_of_block (hW.block (w.heap.size+1+1+1) AH);rw[this,Lx _ i.1];exact i.2
 case hassign=>
  intro l y W K f;have aMj:=Oper.semAt_some l;gi_wp2
  exact f
 case X9=>
  rintro l y W ⟨hb,SA,I7,qg⟩;have aMj:=Oper.semAt_some l;gi_wp2
  .rename_i he;obtain rfl:y=up:=eq_of_beq he;exact⟨KeepsOthers.setCell _ _ _,⟨hb.setCell (Fl _) _,World.cell?_setCell_same _ _ _ I7⟩,rfl⟩
  .rename_i he;exact⟨KeepsOthers.refl _,Below.refl _ _,⟨hb,SA,I7,qg⟩,λe=>by subst e;simp at he⟩
 case wc=>
  rintro D W rfl ⟨hb,SA,I7,qg⟩ f p;gi_wp2
  have g:=(KeepsOthers.setCell W ⟨w.heap.size+1,0,none⟩ (.bool false)).same D _ f rfl;have a:=cell_kept (World.cell?_setCell_same W ⟨w.heap.size+1,0,none⟩ (.bool false) I7) (grownBy_putObj' _ D (.deferred none)) (λr e=>by cases e;exact⟨_,g,rfl⟩);refine⟨AH,.inl ⟨_,_,rfl,run_takeDeferred g,?_⟩⟩;refine⟨.bool false,?_,rfl,(hb.setCell (Fl _) _).grown (grownBy_putObj' _ D _) (by have:=DS I7;simp;omega) (λk e=>by cases e;simp at p;omega)⟩;simp[results,Proofs.Tryz.f237,go_sem,a]
 case we=>
  rintro D W rfl ⟨hb,I7⟩ f p;gi_wp2
  have a:=cell_kept I7 (grownBy_putObj' _ D (.deferred none)) (λr e=>by cases e;exact⟨_,f,rfl⟩);refine⟨AH,.inl ⟨_,_,rfl,run_takeDeferred f,?_⟩⟩;refine⟨.bool true,?_,rfl,hb.grown (grownBy_putObj' _ D _) (by have:=DS I7;omega) (λk e=>by cases e;simp at p;omega)⟩;simp[results,Proofs.Tryz.f237,go_sem,a]
def Yf(ga:Nat)(p:Option Addr)(n cap:Nat)(up x:Int)(w:World)(hc:w.cell? ⟨ga,0,none⟩=some (.slice p n cap))(ho:¬(1<=up/\up<=n/\1<=x/\x<=n)):
  Calls Proofs.Tryz.prog 237 #[.pointer (some ⟨ga,0,none⟩),.int .i64 up,.int .i64 x] w λe w'=>e= .returned (.bool false)/\Below w.heap.size w w':=by
 have c:((w.alloc (.cells #[.int .i64 up] 3)).alloc (.cells #[.bool false] 4)).cell? ⟨ga,0,none⟩=some (.slice p n cap):=CW _ (CW _ hc);have a:=Mt (w.alloc (.cells #[.int .i64 up] 3)) (.bool false) 4;simp only[World.size_alloc] at a;have hb:Below w.heap.size w ((w.alloc (.cells #[.int .i64 up] 3)).alloc (.cells #[.bool false] 4)):=((Below.refl _ w).alloc (Ag _) _).alloc AH _;refine(callsIn_wide (n:=5)).1 ?_;refine callsIn_of_wp Proofs.Tryz.func237 rfl trivial ?_ rfl;simp only[Proofs.Tryz.ntmps237,B9,Bd,BR,Nat.reduceAdd,Nat.reduceSub,KO,KP,M7,Lp,BT,Cs];by_cases h1:1<=up/\up<=n
 .have b:decide (1<=up/\up<=n)=true:=Al h1;have d:decide (1<=x/\x<=n)=false:=Ah λh2=>ho ⟨h1.1,h1.2,h2.1,h2.2⟩;gi_wp2
  refine⟨trivial,(callsIn_wide.2 (bV ga _ n cap up _ c)).mono ?_⟩;rintro e w' ⟨rfl,rfl⟩;rw[b];gi_wp2
  refine⟨trivial,(callsIn_wide.2 (bV ga _ n cap x _ c)).mono ?_⟩;rintro e w' ⟨rfl,rfl⟩;rw[d];gi_wp2
  refine bodyPost_ret (v:= .bool false) ?_ rfl ⟨rfl,hb⟩;simp[results,Proofs.Tryz.f237,go_sem,a.1]
 .have b:decide (1<=up/\up<=n)=false:=Ah h1;gi_wp2
  refine⟨trivial,(callsIn_wide.2 (bV ga _ n cap up _ c)).mono ?_⟩;rintro e w' ⟨rfl,rfl⟩;rw[b];gi_wp2
  refine⟨trivial,?_⟩;gi_wp2
  refine bodyPost_ret (v:= .bool false) ?_ rfl ⟨rfl,hb⟩;simp[results,Proofs.Tryz.f237,go_sem,a.1]
section
variable{h:Ai}
def fH{cs:List Aa}{off:Nat}{x:Int}{k:Nat}{v:Int}(e:Ha cs off x k=some v):cs[off+(x.toNat-1)*13+k]?=some (.int .i64 v):=by
 unfold Ha at e;split at e;.rename_i a;cases e;exact a
 .cases e
def Ę(n:Nat)(args:List Aa)(r:Aa)(h':Ai)(A3:IT.step (Ca cx) (IT.run (Ca cx) n) (N7 args) h=some (.ret,[r],h')):
  (∃fn c,cx.P.funcs[EH 237]?=some fn/\(fn.name== "runtime.NumGoroutine")=false/\fn.body=some c)/\
  ∀(U:Gh) (w:World) (cargs:Array Value),Hv U h w->(∀g cs,cx.Hk g=some cs->C8 U cs g 0)->Bl U args cargs.toList->
   Calls cx.P (EH 237) cargs w λe w'=>match e with
    | .returned v=>∃d,Hv d h' w'/\LI U w d w'/\BQ d r v/\(cx.Jq 237=true->∃s c,I6 d w.heap.size w' s c v r)
    |_=>False:=by
 refine⟨⟨_,_,Proofs.Tryz.func237,rfl,rfl⟩,λU w cargs hi hg ha=>?_⟩;simp only[N7,IT.step,Ep] at A3;cases e0:N6 h args with
 |none=>simp[e0] at A3
 |some H=>
 obtain⟨h1,J⟩:=H;simp only[e0] at A3;cases A3;have HN:∀(b:Bool) (cs:Array Value),h'=h->r= .bool b->Calls Proofs.Tryz.prog 237 cs w (λe w'=>e= .returned (.bool b)/\Below w.heap.size w w')->
   Calls cx.P (EH 237) cs w λe w'=>match e with
    | .returned v=>∃d,Hv d h' w'/\LI U w d w'/\BQ d r v/\(cx.Jq 237=true->∃s c,I6 d w.heap.size w' s c v r)
    |_=>False:=by
  rintro b cs rfl rfl hc;refine hc.mono λe w' he=>?_;obtain⟨rfl,hb⟩:=he;obtain⟨WG,Pz⟩:=hi.LM hb;exact⟨U,WG,Pz,rfl,λe=>by cases e⟩
 unfold N6 at e0;split at e0
 .rename_i id up x;obtain⟨v0,us,o,⟨g,hm,rfl⟩,I,q,rfl,rfl,v2,tC,rfl,rfl,hnil⟩:=ha;cases hnil;have a:cargs=#[.pointer (some ⟨g,0,none⟩),.int .i64 up,.int .i64 x]:=by apply HM;simpa using o
  subst a;split at e0;.rename_i l hc;cases e0;obtain⟨_,y,hy,A⟩:=hi.Ta hc hm (j:=0) rfl;cases A;exact HN false _ rfl rfl (Yf g none 0 0 up x w hy Ac)
  .rename_i F off len l hc;split at e0
   .rename_i cs hcs;split at e0
    .rename_i hl;obtain⟨_,y,hy,gn,cap,f,rfl,D,⟨K,C⟩,B⟩:=hi.Ta hc hm (j:=0) rfl;have m:g<w.heap.size:=DS hy;have i:gn<w.heap.size:=by obtain⟨⟨us,e,fr,E,L⟩,_⟩:=hi.sz gn _ B;exact(A8.1 E).1
     split at e0
     .rename_i hr;cases p:Md cs off len up (len+1) x with
      |none=>simp[p] at e0
      |some b=>simp only[p,BY,BC,IA] at e0;obtain⟨rfl,rfl⟩:=e0;refine HN b _ rfl rfl (aDq g gn off len cap cs up x w m i D C hy (λt k v h1 h2 M G=>?_) b p hr.1 hr.2.1 hr.2.2.1 hr.2.2.2);obtain⟨_,z,hz,u⟩:=hi.Ta hcs f (fH G);cases u;exact hz
     .rename_i hr;cases e0;exact HN false _ rfl rfl (Yf g _ len cap up x w hy hr)
    .cases e0
   .cases e0
  .cases e0
 .cases e0
end
def Pq{T e:TypeId}{B b:Nat}{bs:List Value}{W W':World}(h:Lib.IsBuilder T e B b bs W)(hb:Below W.heap.size W W'):Lib.IsBuilder T e B b bs W':=by
 have key:∀p,Lib.BuilderAt T e B b p bs W->Lib.BuilderAt T e B b p bs W':=λp ⟨hB,v,ô,FJ,hne⟩=>by refine⟨hB,v,(hb.block b (A8.1 ô).1).trans ô,?_,hne⟩;exact FJ.kept (row:=none) ⟨hb.os,hb.tape,hb.output,hb.size,λk hk _=>hb.block k hk⟩ (Classical.em _)
 exact h.imp (key _) (key _)
def Lc(a b:List UInt8):Lib.byteCells (a++b)=Lib.byteCells a++Lib.byteCells b:=by simp[Lib.byteCells]
def byteCells_length(a:List UInt8):(Lib.byteCells a).length=a.length:=by simp[Lib.byteCells]
def uO(d:Nat):Lib.repeatL [32,32] d=List.replicate (2*d) 32:=by
 induction d with
 |zero=>rfl
 |succ d ih=>rw[Lib.repeatL,ih,(Ac:2*(d+1)=2*d+1+1),Lo,Lo];rfl
def uP:∀a:Aa,a.M9=true->a.still=true
 | .bool _,_=>rfl
 | .int _ _,_=>rfl
 | .str _,_=>rfl
 |a,h=>by cases a<;>first|rfl|simp[Aa.M9] at h
def Vr:∀l:List Aa,l.all Aa.M9=true->JW l=true
 |[],_=>rfl
 |a::l,h=>by simp only[dZ,Bv] at h;simp only[JW,Bv];exact⟨uP a h.1,Vr l h.2⟩
section
variable{U:Gh}{h:Ai}{w:World}
def oZ(hi:Hv U h w){id g:Nat}{cs:List Aa}(hc:h[id]?=some (.cells cs))(hm:U.mu id=some g):∀(n o:Nat),o+n<=cs.length->Nk (Cz cs 1 o n)=true->
  (Cz cs 1 o n).length=n/\E7 (GD w) (Cz cs 1 o n) 1 g o
 |0,o,_,_=>⟨rfl,trivial⟩
 |n+1,o,hl,hs=>by
  have hlt:o<cs.length:=Ac;have a:(cs.drop o).take 1=[cs[o]]:=by rw[AG hlt];rfl
  have WB:JW ((cs.drop o).take 1)=true/\Nk (Cz cs 1 (o+1) n)=true:=by simpa only[Cz,Nk,Bv] using hs
  obtain⟨p,q⟩:=oZ hi hc hm n (o+1) Ac WB.2;rw[a] at WB;have Ib:cs[o].still=true:=by simpa[JW] using WB.1
  obtain⟨u,hu,h1,hr⟩:=N9 hi hc hm (Ap hlt);refine⟨by simp[Cz,p],?_⟩;simp only[Cz,a];exact⟨rfl,⟨⟨u,Uh hu h1,BQ.mem hi _ _ Ib hr⟩,trivial⟩,q⟩
def fI(w:World)(b o:Nat)(Bc:List (List Aa)):Prop:=
 ∃v,w.cell? ⟨b,o,none⟩=some v/\((v= .slice none 0 0/\Bc=[])\/
  (∃a c cap,v= .slice (some ⟨a,c,none⟩) Bc.length cap/\Bc.length<=cap/\cap<=maxLen/\a<w.heap.size/\E7 (GD w) Bc 1 a c))
def wg(hi:Hv U h w){id g:Nat}(hm:U.mu id=some g){x:Int}{h1:Ai}{r:Aa}(e:kz h [.ptr (some (id,0)),.int .i64 x]=some (h1,r)):
  h1=h/\∃gn off n cap row c Bc,r= .tuple [.CI row,.int .i64 c,.sl 1 Bc]/\g<w.heap.size/\gn<w.heap.size/\w.cell? ⟨g,0,none⟩=some (.slice (some ⟨gn,off,none⟩) n cap)/\n<=cap/\cap<=maxLen/\
   1<=x/\x<=n/\C8 (GD w) row gn (off+(x.toNat-1)*13)/\w.cell? ⟨gn,off+(x.toNat-1)*13+11,none⟩=some (.int .i64 c)/\fI w gn (off+(x.toNat-1)*13+2) Bc:=by
 unfold kz at e;split at e
 .rename_i FW x' KR;cases KR;split at e
  .rename_i nid off n l hc;split at e
   .rename_i cs hcs;split at e
    .rename_i hx;split at e
     .rename_i D C K B A z v t s q Wb c b hrow;split at e
      .rename_i Ib;simp only[JW,Bv,M3] at Ib;obtain⟨s0,W,V,T,S,R,Q,P,O,F,E⟩:=Ib;obtain⟨_,y,hy,gn,cap,f,rfl,N,⟨q2,M⟩,Z⟩:=hi.Ta hc hm (j:=0) rfl;have i:gn<w.heap.size:=by obtain⟨⟨us,e,fr,G,p2⟩,_⟩:=hi.sz gn _ Z;exact(A8.1 G).1
       have get:∀(j:Nat) (a:Aa),j<13->[D,C,K,B,A,z,v,t,s,q,Wb,.int .i64 c,b][j]?=some a->cs[off+(x.toNat-1)*13+j]?=some a:=λj a hj ha=>by rw[<-hrow,C3 hj,Cr] at ha;exact ha
       have key:∀(j:Nat) (a:Aa),j<13->[D,C,K,B,A,z,v,t,s,q,Wb,.int .i64 c,b][j]?=some a->a.still=true->∃u,(GD w).IF gn (off+(x.toNat-1)*13+j)=some u/\BQ (GD w) a u:=λj a hj ha hs=>by obtain⟨u,hu,ho,hr⟩:=N9 hi hcs f (get j a hj ha);exact⟨u,Uh hu ho,BQ.mem hi _ _ hs hr⟩
       have Yg:w.cell? ⟨gn,off+(x.toNat-1)*13+11,none⟩=some (.int .i64 c):=by obtain⟨u,hu,_,hr⟩:=N9 hi hcs f (get 11 _ Ac rfl);cases hr;exact hu
       obtain⟨u2,IG,ZK,Mh⟩:=N9 hi hcs f (get 2 K Ac rfl);have mk:∀(H:Aa),(∃u,(GD w).IF gn (off+(x.toNat-1)*13+2)=some u/\BQ (GD w) H u)->C8 (GD w) [D,C,H,B,A,z,v,t,s,q,Wb,.int .i64 c,b] gn (off+(x.toNat-1)*13):=λH h2=>⟨key 0 D Ac rfl s0,key 1 C Ac rfl W,h2,key 3 B Ac rfl V,key 4 A Ac rfl T,key 5 z Ac rfl S,key 6 v Ac rfl R,key 7 t Ac rfl Q,key 8 s Ac rfl P,key 9 q Ac rfl O,key 10 Wb Ac rfl F,key 11 _ Ac rfl rfl,key 12 b Ac rfl E,trivial⟩
       have hg:=DS hy;split at e;.cases e;cases Mh;exact⟨rfl,gn,off,n,cap,_,c,[],rfl,hg,i,hy,N,M,hx.1,hx.2.1,mk _ ⟨_,Uh IG ZK,rfl⟩,Yg,_,IG,.inl ⟨rfl,rfl⟩⟩
       .rename_i Nl o m;split at e
        .rename_i ks ā;split at e
         .rename_i hk;cases e;obtain⟨p,d,I,rfl,L,⟨r2,Y⟩,X⟩:=Mh;obtain⟨k,t2⟩:=oZ hi ā I m o Ac hk.2;have J:p<w.heap.size:=by obtain⟨⟨us,e,fr,G,p2⟩,_⟩:=hi.sz p _ X;exact(A8.1 G).1
          refine⟨rfl,gn,off,n,cap,_,c,Cz ks 1 o m,rfl,hg,i,hy,N,M,hx.1,hx.2.1,mk _ ⟨_,Uh IG ZK,⟨p,o,none⟩,d,by rw[k],by rw[k];exact L,.inl rfl,t2⟩,Yg,_,IG,.inr ⟨p,o,d,by rw[k],by rw[k];exact L,Y,J,t2⟩⟩
         .cases e
        .cases e
       .cases e
      .cases e
     .cases e
    .cases e
   .cases e
  .cases e
 .cases e
def ę{n:Nat}(hs:Fj cx (IT.run (Ca cx) n))(hi:Hv U h w)(hg:∀g cs,cx.Hk g=some cs->C8 U cs g 0){row:List Aa}{s:Aj}{h1:Ai}(e:IT.run (Ca cx) n (Ca cx 156 [.CI row]) []=some (.ret,[.str s],h1))
  {W:World} (hb:Below w.heap.size w W) {gn o:Nat} (hr:C8 (GD w) row gn o):
  Calls Proofs.Tryz.prog 156 #[.pointer (some ⟨gn,o,none⟩)] W λe W'=>e= .returned (.string ⟨⟨s⟩⟩)/\Below W.heap.size W W':=by
 refine((hs.2 156 _ _ _ _ e).2 (GD W) W #[.pointer (some ⟨gn,o,none⟩)] (vt W) (λg cs a=>C8.mono (oU hb) cs g 0 (C8.mem hi cs g 0 (Vr cs (hs.1.1 g cs a)) (hg g cs a)))
  ⟨_,_,rfl,⟨gn,o,rfl,C8.mono (oU hb) row gn o hr⟩,rfl⟩).mono λe W' he=>?_
 cases e with
 |returned v=>obtain⟨b,_,ha,hv,_⟩:=he;cases hv;exact⟨rfl,ha.os,ha.tape,ha.output,ha.size,λk hk=>(ha.OI k hk (λid=>by simp[GD])).1⟩
 |_=>exact he.elim
end
def Ě{w:World}{b o:Nat}{Bc:List (List Aa)}(h:fI w b o Bc):∃p cap,w.cell? ⟨b,o,none⟩=some (.slice p Bc.length cap)/\Bc.length<=cap/\cap<=maxLen/\
  ∀(i:Nat) (y:Int),Bc[i]?=some [.int .i64 y]->∃a c,p=some ⟨a,c,none⟩/\a<w.heap.size/\w.cell? ⟨a,c+i,none⟩=some (.int .i64 y):=by
 obtain⟨v,hv,⟨rfl,rfl⟩|⟨a,c,cap,rfl,h1,h2,e,d⟩⟩:=h;.exact⟨none,0,hv,Ag _,AP,λi y hi=>by simp at hi⟩
 .refine⟨_,cap,hv,h1,h2,λi y hi=>⟨a,c,rfl,e,?_⟩⟩;obtain⟨_,⟨u,hu,hr⟩,_⟩:=E7.get d hi;cases hr;have:=hu;simp only[GD,Rd] at this;simpa using this.1
def o7(l:List UInt8):Lib.strCells ⟨l.toArray⟩=Lib.byteCells l:=by simp[Lib.strCells,Lib.byteCells]
def fJ(l:List UInt8):Lib.strCells ⟨⟨l⟩⟩=Lib.byteCells l:=by simp[Lib.strCells,Lib.byteCells]
def uQ(i n:Nat)(h:i<n)(hn:n<=9223372036854775807):wrap64 ((i:Int)+1)=((i+1:Nat):Int):=by rw[Go.IntWalk.wrap64_in _ ⟨Ac,Ac⟩];omega
def bW(d:Nat)(h:d<=1000):wrap64 ((d:Int)+1)=((d+1:Nat):Int):=by rw[Go.IntWalk.wrap64_in _ ⟨Ac,Ac⟩];omega
abbrev qn(g:Nat)(w0:World)(x:Int)(d:Nat)(DZ R4:Aj):Prop:=
 ∀(B b:Nat) (W:World),w0.heap.size<=B->B<=W.heap.size->Below w0.heap.size w0 W->Lib.IsBuilder 99 5 B b (Lib.byteCells DZ) W->
  Calls Proofs.Tryz.prog 55 #[.pointer (some ⟨g,0,none⟩),.pointer (some ⟨b,0,none⟩),.int .i64 x,.int .i64 d] W λe W'=>(∃v,e= .returned v)/\Lib.IsBuilder 99 5 B b (Lib.byteCells R4) W'/\Below B W W'
def lj{p:Prop}(h:p):Hid p:=h
def MG{w0 W':World}{k j:Nat}{v:Value}(hb:Below w0.heap.size w0 W')(h:w0.cell? ⟨k,j,none⟩=some v):W'.cell? ⟨k,j,none⟩=some v:=by rw[CU (hb.block k (DS h))];exact h
def uR:Code->Code
 | .seq _ c=>uR c
 | .block _ c=>c
 |c=>c
noncomputable def wh:Code:=match Proofs.Tryz.f55.body with
 |some c=>uR c
 |none=> .skip
def wj{w0 W W6:World}{g B b d a:Nat}{p:Option Addr}{Bc:List (List Aa)}(hB:w0.heap.size<=B)(h:B<=W.heap.size)(hb:Below w0.heap.size w0 W)(hd:d<=1000)
  (ZN:Bc.length<=a) (sP:a<=maxLen) (ė:∀(i:Nat) (y:Int),Bc[i]?=some [.int .i64 y]->∃l ko,p=some ⟨l,ko,none⟩/\l<w0.heap.size/\w0.cell? ⟨l,ko+i,none⟩=some (.int .i64 y))
  (f:Nat->Aj) (hf:∀i,i<Bc.length->∃y,Bc[i]?=some [.int .i64 y]/\qn g w0 y (d+1) (f i) (f (i+1))) (j:Below B W W6) (l6:Lib.IsBuilder 99 5 B b (Lib.byteCells (f 0)) W6)
  (z2 z4 z5 z6 z7 z8 z9 z10 z11 z12 z13 z14 Z z16 Y X V z20 U z22 T S R Q P O N M L K J I H G z37 F E D C A z x w u t z51 s z53 r q o n m:Value):
  wh.wpIn Fence.wide 5 Proofs.Tryz.prog (Exit.inBlock 0<|bodyPost Proofs.Tryz.prog Proofs.Tryz.f55 λe W'=>(∃v,e= .returned v)/\Lib.IsBuilder 99 5 B b (Lib.byteCells (f Bc.length)) W'/\Below B W W')
   {tmps:=#[.pointer (some ⟨g,0,none⟩),.pointer (some ⟨b,0,none⟩),z2,.int .i64 d,z4,z5,z6,z7,z8,z9,z10,z11,z12,z13,z14,Z,z16,Y,X,V,z20,U,z22,T,S,R,Q,P,O,N,M,L,K,J,I,H,G,z37,F,E,D,C,A,z,x,w,.slice p Bc.length a,.int .i64 Bc.length,.int .i64 0,u,t,z51,s,z53,r,q,o,n,m],defers:=[]} W6:=by
 simp only[wh,uR,Proofs.Tryz.f55];gi_loopg [48] Bc.length (λk v wr=>∃i,i<=Bc.length/\k=Bc.length-i/\v= .int .i64 (i:Nat)/\Below B W wr/\Lib.IsBuilder 99 5 B b (Lib.byteCells (f i)) wr)
 case atStart=>exact⟨0,AY _,rfl,rfl,j,l6⟩
 case round=>
  obtain⟨i,hi,rfl,rfl,bbi,li⟩:=hrel;by_cases hlt:i<Bc.length
  .obtain⟨y,hy,aBJ⟩:=hf i hlt;obtain⟨l,ko,rfl,hgk,J8⟩:=ė i y hy;have c:Below w0.heap.size w0 wr:=hb.trans (bbi.mono hB);have ci:=MG c J8;have aSD:(i:Int)<(Bc.length:Int):=by exact_mod_cast hlt
   have hwi:=uQ i _ hlt (Br ZN sP);have hwd:=bW d hd;have WE:=aBJ B b _ hB (Br h bbi.size) c li;clear aBJ hf ė ZN sP c li l6 j J8 hy hgk hB h hb;rw[show((d+1:Nat):Int)=(d:Int)+1 from rfl] at WE;gi_wp2
   refine⟨trivial,(callsIn_wide.2 WE).mono ?_⟩;rintro e W7 ⟨⟨v,rfl⟩,l7,b7⟩;gi_wp2
   gi_roundg (Bc.length-(i+1))
   case measure=>exact Nat.sub_lt_sub_left hlt (NQ i)
   case rel=>refine⟨i+1,hlt,rfl,?_,bbi.trans b7,l7⟩;first|rfl|exact Cc (Value.int .i64) hwi
  .obtain rfl:i=Bc.length:=Nat.le_antisymm hi (Nat.le_of_not_lt hlt);gi_wp2
   go_end0
   exact⟨⟨_,rfl⟩,li,bbi⟩
def aDs{w0:World}{g gn off n cap:Nat}{c x:Int}{Bc:List (List Aa)}(U:g<w0.heap.size)(V:gn<w0.heap.size)(hc:w0.cell? ⟨g,0,none⟩=some (.slice (some ⟨gn,off,none⟩) n cap))(P1:n<=cap)(hm:cap<=maxLen)
  (PD:1<=x) (fG:x<=n) (aB:w0.cell? ⟨gn,off+(x.toNat-1)*13+11,none⟩=some (.int .i64 c)) (hk:fI w0 gn (off+(x.toNat-1)*13+2) Bc)
  {d:Nat} (hd:d<=1000) {DZ j s:Aj}
  (zT:∀W,Below w0.heap.size w0 W->Calls Proofs.Tryz.prog 156 #[.pointer (some ⟨gn,off+(x.toNat-1)*13,none⟩)] W λe W'=>e= .returned (.string ⟨⟨s⟩⟩)/\Below W.heap.size W W')
  (hlen:(DZ++List.replicate (2*d) 32++s++[10]).length<=AW)
  (zU:(c=0/\j=DZ++List.replicate (2*d) 32++s++[10])\/(c≠0/\qn g w0 c (d+1) (DZ++List.replicate (2*d) 32++s++[10]) j))
  (f:Nat->Aj) (sM:f 0=j) (hf:∀i,i<Bc.length->∃y,Bc[i]?=some [.int .i64 y]/\qn g w0 y (d+1) (f i) (f (i+1))):
  qn g w0 x d DZ (f Bc.length):=by
 intro B b W hB a hb G;obtain⟨p,P,ZU,ZN,sP,ė⟩:=Ě hk;have h:AW=140737488355328:=rfl;simp only[Au,F8,Bd,BR] at hlen;have O:2*d<=140737488355328:=by rw[h] at hlen;omega
 have N:(Lib.byteCells DZ).length+(⟨(List.replicate (2*d) (32:UInt8)).toArray⟩:ByteArray).size<=140737488355328:=by rw[h] at hlen;rw[byteCells_length];simp only[ByteArray.size,B9,F8];omega
 have M:(Lib.byteCells (DZ++List.replicate (2*d) 32)).length+(⟨⟨s⟩⟩:ByteArray).size<=140737488355328:=by rw[h] at hlen;rw[byteCells_length];simp only[ByteArray.size,Au,F8];show _+s.length<=_;omega
 have L:(Lib.byteCells (DZ++List.replicate (2*d) 32++s)).length+1<=140737488355328:=by rw[h] at hlen;rw[byteCells_length];simp only[Au,F8];omega
 have K:d<=9223372036854775807:=Br hd AP;clear hlen h;have Hline:=lj zT;have o:=lj zU;have S:=lj hf;have w:=lj ė;have A:=lj ZN;have z:=lj sP;clear zT zU hf ė hk ZN sP;refine(callsIn_wide (n:=5)).1 ?_;refine callsIn_of_wp Proofs.Tryz.func55 rfl trivial ?_ rfl;simp only[Proofs.Tryz.ntmps55,B9,Bd,BR,Nat.reduceAdd,Nat.reduceSub,KO,KP,M7,Lp,BT,Cs];gi_wp2
 refine⟨trivial,(callsIn_wide.2 (aGX g gn off n cap x _ (MG hb hc) PD fG P1 hm)).mono ?_⟩;rintro e w' ⟨rfl,rfl⟩;gi_wp2
 refine⟨trivial,(callsIn_wide.2 (Proofs.Tryz.strings_Repeat ⟨#[32,32]⟩ d _ K O)).mono ?_⟩;rintro e W1 ⟨rfl,b1⟩;have TZ:Below w0.heap.size w0 W1:=hb.trans (b1.mono hb.size);have u:Below B W W1:=b1.mono a;have l1:=Pq G b1;have hr:(Lib.repeatL (⟨#[32,32]⟩:ByteArray).data.toList d)=List.replicate (2*d) 32:=uO d;rw[hr];gi_wp2
 refine⟨trivial,(callsIn_wide.2 (Proofs.Tryz.Builder_WriteString B b (Lib.byteCells DZ) _ _ l1 N (Br a u.size))).mono ?_⟩;rintro e Z ⟨rfl,E,b2⟩;rw[o7,<-Lc] at E;have t:=u.trans b2;have OC:Below w0.heap.size w0 Z:=TZ.trans (b2.mono hB);gi_wp2
 refine⟨trivial,(callsIn_wide.2 (Hline.out _ OC)).mono ?_⟩;rintro e W3 ⟨rfl,b3⟩;have qo:Below w0.heap.size w0 W3:=OC.trans (b3.mono OC.size);have r:Below B W W3:=t.trans (b3.mono (Br a t.size));have l3:=Pq (.inr E) b3;gi_wp2
 refine⟨trivial,(callsIn_wide.2 (Proofs.Tryz.Builder_WriteString B b _ _ _ l3 M (Br a r.size))).mono ?_⟩;rintro e Y ⟨rfl,l4,b4⟩;rw[fJ,<-Lc] at l4;have q:=r.trans b4;have I:Below w0.heap.size w0 Y:=qo.trans (b4.mono hB);gi_wp2
 refine⟨trivial,(callsIn_wide.2 (Proofs.Tryz.Builder_WriteByte B b _ 10 _ (.inr l4) L (Br a q.size))).mono ?_⟩;rintro e R ⟨rfl,C,b5⟩;have J:Lib.byteCells (DZ++List.replicate (2*d) 32++s)++[Value.int .u8 10]=Lib.byteCells (DZ++List.replicate (2*d) 32++s++[10]):=by rw[Lc (DZ++List.replicate (2*d) 32++s) [10]];rfl
 replace C:=J▸C;have m:=q.trans b5;have k:Below w0.heap.size w0 R:=I.trans (b5.mono hB);have c5:=MG k aB;clear P1 hm PD fG hc O N M L K l1 l3 l4 E;rcases o.out with⟨rfl,rfl⟩|⟨F,wk⟩
 .have l:=m;have l6:Lib.IsBuilder 99 5 B b (Lib.byteCells (f 0)) R:=by rw[sM];exact .inr C
  have X:=MG k ZU;gi_wp2
  exact wj hB a hb hd A.out z.out w.out f S.out l l6 _ _ _ _ _ _ _ _ _ _ _ _ _ _ _ _ _ _ _ _ _ _ _ _ _ _ _ _ _ _ _ _ _ _ _ _ _ _ _ _ _ _ _ _ _ _ _ _ _ _ _ _ _
 .have hne:(c != 0)=true:=by simp[F]
  have T:=bW d hd;have aG0:=wk B b _ hB (Br a m.size) k (.inr C);rw[show((d+1:Nat):Int)=(d:Int)+1 from rfl] at aG0;gi_wp2
  refine⟨trivial,(callsIn_wide.2 aG0).mono ?_⟩;rintro e Q ⟨⟨v,rfl⟩,D,b6⟩;have l:=m.trans b6;have H:Below w0.heap.size w0 Q:=k.trans (b6.mono hB);have l6:Lib.IsBuilder 99 5 B b (Lib.byteCells (f 0)) Q:=by rw[sM];exact D
  have X:=MG H ZU;gi_wp2
  exact wj hB a hb hd A.out z.out w.out f S.out l l6 _ _ _ _ _ _ _ _ _ _ _ _ _ _ _ _ _ _ _ _ _ _ _ _ _ _ _ _ _ _ _ _ _ _ _ _ _ _ _ _ _ _ _ _ _ _ _ _ _ _ _ _ _
section
variable{U:Gh}{h:Ai}{w0:World}
abbrev aDu(fuel d:Nat)(a:Aa):List Aa->(Aj->IT)->Aj->IT:=λNl K DZ=>match Nl with
 |[.int .i64 y]=>Ie 156 a fuel y (d+1) DZ K
 |_=> .fail
def o8{run:IT->Ai->Option Km}{g fuel d:Nat}{a:Aa}(ih:∀(x:Int) (DZ:Aj) (k:Aj->IT) (res:Km),IT.step (Ca cx) run (Ie 156 a fuel x (d+1) DZ k) h=some res->∃R4,IT.step (Ca cx) run (k R4) h=some res/\qn g w0 x (d+1) DZ R4):
  ∀(Bc:List (List Aa)) (DZ:Aj) (k:Aj->IT) (res:Km),IT.step (Ca cx) run (Bc.foldr (aDu fuel d a) k DZ) h=some res->
   ∃f:Nat->Aj,f 0=DZ/\IT.step (Ca cx) run (k (f Bc.length)) h=some res/\∀i,i<Bc.length->∃y,Bc[i]?=some [.int .i64 y]/\qn g w0 y (d+1) (f i) (f (i+1))
 |[],DZ,k,res,e=>⟨λ_=>DZ,rfl,e,λi hi=>by simp at hi⟩
 |Nl::Bc,DZ,k,res,e=>by
  simp only[List.foldr_cons] at e;unfold aDu at e;split at e
  .rename_i y;obtain⟨b,j,l⟩:=ih _ _ _ _ e;obtain⟨f,f0,f1,f2⟩:=o8 ih Bc b k res j;refine⟨λ|0=>DZ|i+1=>f i,rfl,f1,λi hi=>?_⟩;cases i with
   |zero=>
    have hc:qn g w0 y (d+1) DZ (f 0):=by rw[f0];exact l
    exact⟨y,rfl,hc⟩
   |succ i=>obtain⟨c,p,q⟩:=f2 i (by simpa using hi);exact⟨c,by simpa using p,q⟩
  .cases e
def wm{run:IT->Ai->Option Km}{a:Aa}{x:Int}{d:Nat}{DZ:Aj}{k:Aj->IT}{res:Km}(fuel:Nat)(e:IT.step (Ca cx) run (Ie 156 a fuel x d DZ k) h=some res):∃id,a= .ptr (some (id,0)):=by
 cases fuel with
 |zero=>simp[Ie,IT.step] at e
 |succ fuel=>
  simp only[Ie,IT.step,Ep] at e;cases e0:kz h [a,.int .i64 x] with
  |none=>simp[e0] at e
  |some b=>
   unfold kz at e0;split at e0;.rename_i id x' KR;cases KR;exact⟨id,rfl⟩
   .cases e0
def o9{n:Nat}(hs:Fj cx (IT.run (Ca cx) n))(hi:Hv U h w0)(hg:∀g cs,cx.Hk g=some cs->C8 U cs g 0){id g:Nat}(hm:U.mu id=some g):
  ∀(fuel:Nat) (x:Int) (d:Nat) (DZ:Aj) (k:Aj->IT) (res:Km),d+fuel<=1000->IT.step (Ca cx) (IT.run (Ca cx) n) (Ie 156 (.ptr (some (id,0))) fuel x d DZ k) h=some res->
   ∃R4,IT.step (Ca cx) (IT.run (Ca cx) n) (k R4) h=some res/\qn g w0 x d DZ R4/\∃p cap ln,w0.cell? ⟨g,0,none⟩=some (.slice p ln cap)/\1<=x/\x<=ln
 |0,x,d,DZ,k,res,_,e=>by simp[Ie,IT.step] at e
 |fuel+1,x,d,DZ,k,res,hd,e=>by
  simp only[Ie,IT.step,Ep] at e;cases e0:kz h [.ptr (some (id,0)),.int .i64 x] with
  |none=>simp[e0] at e
  |some u=>
  obtain⟨h1,r⟩:=u;simp only[e0] at e;obtain⟨m,gn,off,w,cap,row,c,Bc,rfl,i,j,hc,P1,bX,PD,fG,hrow,aB,hk⟩:=wg hi hm e0;simp only[IT.step] at e;rw[m] at e;clear m;cases l:IT.run (Ca cx) n (Ca cx 156 [.CI row]) [] with
  |none=>simp[l] at e
  |some y=>
  simp only[l] at e;split at e
  .rename_i v o KR;cases KR;split at e
   .split at e
    .rename_i s Hu;split at e
     .rename_i hlen;have ih:∀(x:Int) (DZ:Aj) (k:Aj->IT) (res:Km),IT.step (Ca cx) (IT.run (Ca cx) n) (Ie 156 (.ptr (some (id,0))) fuel x (d+1) DZ k) h=some res->∃R4,IT.step (Ca cx) (IT.run (Ca cx) n) (k R4) h=some res/\qn g w0 x (d+1) DZ R4:=λx DZ k res e=>by obtain⟨R4,p,q,_⟩:=o9 hs hi hg hm fuel x (d+1) DZ k res Ac e;exact⟨R4,p,q⟩
      have zT:∀W,Below w0.heap.size w0 W->Calls Proofs.Tryz.prog 156 #[.pointer (some ⟨gn,off+(x.toNat-1)*13,none⟩)] W λe W'=>e= .returned (.string ⟨⟨s⟩⟩)/\Below W.heap.size W W':=
       λW hb=>ę hs hi hg l hb hrow
      have HN:∀a,((c=0/\a=DZ++List.replicate (2*d) 32++s++[10])\/(c≠0/\qn g w0 c (d+1) (DZ++List.replicate (2*d) 32++s++[10]) a))->
        IT.step (Ca cx) (IT.run (Ca cx) n) (Bc.foldr (aDu fuel d (.ptr (some (id,0)))) k a) h=some res->∃R4,IT.step (Ca cx) (IT.run (Ca cx) n) (k R4) h=some res/\qn g w0 x d DZ R4/\∃p cap ln,w0.cell? ⟨g,0,none⟩=some (.slice p ln cap)/\1<=x/\x<=ln:=by
       intro a zU t;obtain⟨f,f0,f1,f2⟩:=o8 ih Bc a k res t;exact⟨f Bc.length,f1,aDs i j hc P1 bX PD fG aB hk Ac zT hlen zU f f0 f2,_,_,_,hc,PD,fG⟩
      split at e;.rename_i b;exact HN _ (.inl ⟨b,rfl⟩) e
      .rename_i b;obtain⟨a,p,q⟩:=ih _ _ _ _ e;exact HN a (.inr ⟨b,q⟩) p
     .cases e
    .cases e
   .cases e
  .cases e
end
def aDv{w0:World}{g ln cap:Nat}{p:Option Addr}{x:Int}{s:Aj}(b:g<w0.heap.size)(hc:w0.cell? ⟨g,0,none⟩=some (.slice p ln cap))(PD:1<=x)(fG:x<=ln)(wk:qn g w0 x 0 [] s):
  Calls Proofs.Tryz.prog 21 #[.pointer (some ⟨g,0,none⟩),.int .i64 x] w0 λe w'=>e= .returned (.string ⟨⟨s⟩⟩)/\Below w0.heap.size w0 w':=by
 have c:decide (1<=x/\x<=ln)=true:=Al ⟨PD,fG⟩;have aMp:(w0.alloc (.cells #[.pointer none,.slice none 0 0] 99)).heap[w0.heap.size]?=some (.cells #[.pointer none,.slice none 0 0] 99 (0,0)):=World.alloc_heap_new w0 _;have TZ:Below w0.heap.size w0 (w0.alloc (.cells #[.pointer none,.slice none 0 0] 99)):=(Below.refl _ w0).alloc (Ag _) _;have l1:Lib.IsBuilder 99 5 w0.heap.size w0.heap.size (Lib.byteCells []) (w0.alloc (.cells #[.pointer none,.slice none 0 0] 99)):=
  .inl ⟨Ag _,.slice none 0 0,aMp,World.ownsRow_nil _ _ _ _,by simp[Value.ownBlock]⟩
 have WE:=wk w0.heap.size w0.heap.size _ (Ag _) AH TZ l1;rw[show((0:Nat):Int)=0 from rfl] at WE;refine(callsIn_wide (n:=5)).1 ?_;refine callsIn_of_wp Proofs.Tryz.func21 rfl trivial ?_ rfl;simp only[Proofs.Tryz.ntmps21,B9,Bd,BR,Nat.reduceAdd,Nat.reduceSub,KO,KP,M7,Lp,BT,Cs];gi_wp2
 refine⟨trivial,(callsIn_wide.2 (bV g _ ln cap x _ hc)).mono ?_⟩;rintro e w' ⟨rfl,rfl⟩;rw[c];gi_wp2
 refine⟨trivial,(callsIn_wide.2 WE).mono ?_⟩;rintro e d ⟨⟨v,rfl⟩,a,b2⟩;gi_wp2
 refine⟨trivial,(callsIn_wide.2 (Proofs.Tryz.Builder_String_any w0.heap.size w0.heap.size s _ a (by have:=b2.size;have:=TZ.size;omega))).mono ?_⟩;rintro e W3 ⟨rfl,b3⟩;gi_wp2
 refine bodyPost_ret (results_tmp rfl _ _ _) rfl ?_;exact⟨rfl,(TZ.trans b2).trans b3⟩
def aDw{h:Ai}(n:Nat)(hs:Fj cx (IT.run (Ca cx) n))(args:List Aa)(r:Aa)(h':Ai)(A3:IT.step (Ca cx) (IT.run (Ca cx) n) (zP 156 args) h=some (.ret,[r],h')):
  (∃fn c,cx.P.funcs[EH 21]?=some fn/\(fn.name== "runtime.NumGoroutine")=false/\fn.body=some c)/\
  ∀(U:Gh) (w:World) (cargs:Array Value),Hv U h w->(∀g cs,cx.Hk g=some cs->C8 U cs g 0)->Bl U args cargs.toList->
   Calls cx.P (EH 21) cargs w λe w'=>match e with
    | .returned v=>∃d,Hv d h' w'/\LI U w d w'/\BQ d r v/\(cx.Jq 21=true->∃s c,I6 d w.heap.size w' s c v r)
    |_=>False:=by
 refine⟨⟨_,_,Proofs.Tryz.func21,rfl,rfl⟩,λU w cargs hi hg ha=>?_⟩;have aMq:∃id x,args=[.ptr (some (id,0)),.int .i64 x]:=by
  unfold zP at A3;split at A3;.rename_i a x;obtain⟨id,rfl⟩:=wm _ A3;exact⟨id,x,rfl⟩
  .cases A3
 obtain⟨id,x,rfl⟩:=aMq;obtain⟨v0,us,f,⟨g,hm,rfl⟩,k,i,rfl,rfl,hnil⟩:=ha;cases hnil;have b:cargs=#[.pointer (some ⟨g,0,none⟩),.int .i64 x]:=by apply HM;simpa using f
 subst b;simp only[zP] at A3;obtain⟨DZ,j,wk,p,cap,ln,hc,PD,fG⟩:=o9 hs hi hg hm 100 x 0 [] _ _ Ac A3;cases j;refine(aDv (DS hc) hc PD fG wk).mono λe w' he=>?_;obtain⟨rfl,hb⟩:=he;obtain⟨WG,Pz⟩:=hi.LM hb;exact⟨U,WG,Pz,rfl,λe=>by cases e⟩
end Go.Am
end
section
namespace Go.Am
open Go
def ě:eX cx:=by
 refine⟨λf hf=>?_,λf p hp n hs args h r h' A3=>?_⟩
 .simp only[cx,aGJ] at hf;split at hf;.exact lg
  .cases hf
 .simp only[cx,aBE] at hp;split at hp;.cases hp;exact aDw n hs args r h' A3
  .cases hp;exact aDi n args r h' A3
  .cases hp;exact Ę n args r h' A3
  .cases hp;exact Ė n hs args r h' A3
  .cases hp
end Go.Am
end
