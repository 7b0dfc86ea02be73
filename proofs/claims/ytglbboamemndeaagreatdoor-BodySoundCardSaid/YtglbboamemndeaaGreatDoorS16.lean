/- Lemmas -/
import Derived.Test.YtglbboamemndeaaGreatDoorS15
import Derived.RangeFuncBox
import Derived.OwnWalkIn
import Derived.TacticsInMore
import Derived.LoopNIn
import Derived.Sort.LoopGhostIn
set_option linter.all false
set_option maxHeartbeats 0
set_option maxRecDepth 100000
section
namespace Go.Am
open Go Go.RowKit Go.Shelf
def ZF(ga:Nat)(p:Option Addr)(n cap:Nat)(x:Int)(w:World)(hc:w.cell? ⟨ga,0,none⟩=some (.slice p n cap)):
  Calls Proofs.Tryz.prog 98 #[.pointer (some ⟨ga,0,none⟩),.int .i64 x] w λe w'=>e= .returned (.bool (decide (1<=x/\x<=n)))/\w=w':=by
 go_enter Proofs.Tryz.func98,Proofs.Tryz.ntmps98
 go_wp2
 all_goals refine bodyPost_ret (results_tmp rfl _ _ _) rfl ?_
 all_goals simp_all
 all_goals omega
def aCx(ga gn off n cap:Nat)(x:Int)(w:World)(hc:w.cell? ⟨ga,0,none⟩=some (.slice (some ⟨gn,off,none⟩) n cap))(h1:1<=x)(h2:x<=n)(Pe:n<=cap)(hm:cap<=maxLen):
  Calls Proofs.Tryz.prog 102 #[.pointer (some ⟨ga,0,none⟩),.int .i64 x] w λe w'=>e= .returned (.pointer (some ⟨gn,off+(x.toNat-1)*13,none⟩))/\w=w':=by
 have hb:maxLen<=9223372036854775807:=AM;have hw:wrap64 (x-1)=x-1:=Go.IntWalk.wrap64_in _ ⟨Ac,Ac⟩;go_enter Proofs.Tryz.func102,Proofs.Tryz.ntmps102
 go_wp2
 all_goals refine bodyPost_ret (results_tmp rfl _ _ _) rfl ?_
 all_goals exact⟨rfl,rfl⟩
def aCy(ga:Nat)(x:Int)(w:World):
  Calls Proofs.Tryz.prog 232 #[.pointer (some ⟨ga,0,none⟩),.int .i64 x,.bool true] w λe w'=>e= .returned (.func (.func 272) #[] #[.pointer (some ⟨w.heap.size+1,0,none⟩),.pointer (some ⟨w.heap.size,0,none⟩),.pointer (some ⟨w.heap.size+1+1,0,none⟩)])/\
   w'=((w.alloc (.cells #[.pointer (some ⟨ga,0,none⟩)] 40)).alloc (.cells #[.int .i64 x] 3)).alloc (.cells #[.bool true] 4):=by
 have a:∀(fn:Fn) (first cap:Array Value) (w:World),(Instr.makeFunc fn first cap).run Proofs.Tryz.prog w= .ok (.func fn first cap) w:=λ_ _ _ _=>rfl;go_enter Proofs.Tryz.func232,Proofs.Tryz.ntmps232
 go_wp2
 go_ret
 exact⟨rfl,rfl⟩
def qZ{cs:List Aa}{off n:Nat}{up:Int}{k:Nat}{b:Bool}(h:Ls cs off n up k 0=some b):b=false:=by cases k<;>simp[Ls] at h<;>exact h
def rA{cs:List Aa}{off n:Nat}{up x:Int}{k:Nat}{b:Bool}(h:Ls cs off n up k x=some b)(hx:x≠0):∃k',k=k'+1/\
  ((x=up/\b=true)\/(x≠up/\1<=x/\x<=n/\∃p q,Gp cs off x 1=some p/\Gp cs off x 12=some q/\Ls cs off n up k' (if p=0 then q else p)=some b)):=by
 cases k with
 |zero=>
  rw[Ls] at h;. cases h
  .exact λe=>hx e
 |succ k=>
  refine⟨k,rfl,?_⟩;rw[Ls] at h
  .split at h;.rename_i e;cases h;exact .inl ⟨e,rfl⟩
   .rename_i e;split at h
    .rename_i hr;split at h;.rename_i p q c a;exact .inr ⟨e,hr.1,hr.2,p,q,c,a,h⟩
     .cases h
    .cases h
  .exact λe=>hx e
structure mB(Ba Bo ga gn off n cap:Nat)(cs:List Aa)(W:World):Prop where
 a:W.cell? ⟨Ba,0,none⟩=some (.pointer (some ⟨ga,0,none⟩))
 o:W.cell? ⟨Bo,0,none⟩=some (.bool true)
 c:W.cell? ⟨ga,0,none⟩=some (.slice (some ⟨gn,off,none⟩) n cap)
 x:∀(h:Int) (k:Nat) (v:Int),1<=h->h<=n->(k=1\/k=12)->Gp cs off h k=some v->W.cell? ⟨gn,off+(h.toNat-1)*13+k,none⟩=some (.int .i64 v)
def mB.NS{Ba Bo ga gn off n cap:Nat}{cs:List Aa}{A B:World}(h:mB Ba Bo ga gn off n cap cs A)(hk:∀b,b=Ba\/b=Bo\/b=ga\/b=gn->B.heap[b]?=A.heap[b]?):mB Ba Bo ga gn off n cap cs B:=
 ⟨by rw[CG (hk _ Ax)];exact h.a,by rw[CG (hk _ Ax)];exact h.o,by rw[CG (hk _ Ax)];exact h.c,
  λx k v h1 h2 e d=>by rw[CG (hk _ Ax)];exact h.x x k v h1 h2 e d⟩
def wO{Ba Bo ga gn off n cap a:Nat}{cs:List Aa}{A:World}{u:Value}{J:World->Prop}(c:∀A B row,J A->A.grownBy B row->(∀r,row=some r->r=a)->J B)
  (hd:∀b,b=Ba\/b=Bo\/b=ga\/b=gn->b≠a) (hs:mB Ba Bo ga gn off n cap cs A) (hc:A.cell? ⟨a,0,none⟩=some u) (hf:A.frozen? ⟨a,0,none⟩=false) (hj:J A) (v:Value):
  mB Ba Bo ga gn off n cap cs (A.setCell ⟨a,0,none⟩ v)/\(A.setCell ⟨a,0,none⟩ v).cell? ⟨a,0,none⟩=some v/\(A.setCell ⟨a,0,none⟩ v).frozen? ⟨a,0,none⟩=false/\J (A.setCell ⟨a,0,none⟩ v):=
 ⟨hs.NS λb hb=>Below.heap_setCell _ _ _ b (hd b hb),World.cell?_setCell_same _ _ _ hc,by rw[World.frozen?_setCell];exact hf,c _ _ _ hj (grownBy_setCell' A a v) λr e=>by cases e;rfl⟩
def aCz(m l d Ba Bo n₁ ga gn off n cap:Nat)(cs:List Aa)(up:Int)(J D:World->Prop)
  (z:∀A B row,J A->A.grownBy B row->(∀r,row=some r->r=d)->J B)
  (K:∀x W,J W->YieldAt Fence.wide (m-1) Proofs.Tryz.prog l #[.int .i64 x] W λe W'=>(e= .returned (.bool true)/\J W'/\Below n₁ W W'/\x≠up)\/(e= .returned (.bool false)/\D W'/\x=up))
  (hd:∀b,b=Ba\/b=Bo\/b=ga\/b=gn->b<n₁/\b≠d) (h:d<n₁) (Pe:n<=cap) (hm:cap<=maxLen)
  (W:World) (i:Int) (hs:mB Ba Bo ga gn off n cap cs W) (s:W.cell? ⟨d,0,none⟩=some (.int .i64 i)) (hf:W.frozen? ⟨d,0,none⟩=false)
  (fuel:Nat) (b:Bool) (hcl:Ls cs off n up fuel i=some b) (h0:J W):
  CallsIn Fence.wide m Proofs.Tryz.prog 272 #[.func (.yield l) #[] #[],.pointer (some ⟨d,0,none⟩),.pointer (some ⟨Ba,0,none⟩),.pointer (some ⟨Bo,0,none⟩)] W λe W'=>(∃v,e= .returned v)/\((b=false/\J W')\/(b=true/\D W')):=by
 refine callsIn_of_wp Proofs.Tryz.func272 rfl trivial ?_ rfl;simp only[Proofs.Tryz.ntmps272,BU,AG,Bk,Nat.reduceAdd,Nat.reduceSub,J8,J9,Mg,Ky,BR,CD];gi_wp2
 gi_loopg [] fuel (λk wr=>∃x,Ls cs off n up k x=some b/\mB Ba Bo ga gn off n cap cs wr/\wr.cell? ⟨d,0,none⟩=some (.int .i64 x)/\wr.frozen? ⟨d,0,none⟩=false/\J wr)
 case atStart=>exact⟨i,hcl,hs,s,hf,h0⟩
 case round=>
  obtain⟨x,hcl,hs,s,hf,hj⟩:=hrel;by_cases hx:x=0
  .subst hx;have:=qZ hcl;subst this;gi_wp2
   refine⟨nofun,?_⟩;gi_wp2
   go_end0
   exact⟨⟨_,rfl⟩,hj⟩
  .obtain⟨k',rfl,IB⟩:=rA hcl hx;have hne:(x != 0)=true:=by simp[hx]
   obtain⟨fn,tmps,assign,body,hy,hR⟩:=K x wr hj;gi_wp2
   refine⟨nofun,?_⟩;refine hR.mono ?_;rintro e W3 (⟨rfl,u,pG,å⟩|⟨rfl,g,å⟩)
   .rcases IB with⟨rfl,_⟩|⟨_,h1,h2,p,q,M,L,ŀ⟩
    .exact absurd rfl å
    have f:=hs.NS λb hb=>pG.block b (hd b hb).1;have j:W3.cell? ⟨d,0,none⟩=some (.int .i64 x):=by rw[CG (pG.block d h)];exact s
    have t:W3.frozen? ⟨d,0,none⟩=false:=by rw[<-hf];simp only[World.frozen?,pG.block d h]
    have hp:=f.x x 1 p h1 h2 (.inl rfl) M;have hq:=f.x x 12 q h1 h2 (.inr rfl) L;have O:=f.a;have N:=f.o;have G:¬Bo=d:=(hd Bo Ax).2;have F:¬gn=d:=(hd gn Ax).2;gi_wp2
    refine⟨trivial,nofun,(callsIn_wide.2 (aCx ga gn off n cap x _ f.c h1 h2 Pe hm)).mono ?_⟩;rintro e w' ⟨rfl,rfl⟩;obtain⟨w,C,z4,y⟩:=wO z (λb hb=>(hd b hb).2) f j t u (.int .i64 p);by_cases ħ:p=0
    .subst ħ;obtain⟨E,P,z5,H⟩:=wO z (λb hb=>(hd b hb).2) w C z4 y (.int .i64 q);gi_wp2
     gi_roundg k'
     case measure=>omega
     case rel=>exact⟨q,ŀ,E,P,z5,H⟩
    .have I:(p==0)=false:=by simp[ħ]
     gi_wp2
     gi_roundg k'
     case measure=>omega
     case rel=>exact⟨p,by rw[Af ħ] at ŀ;exact ŀ,w,C,z4,y⟩
   .rcases IB with⟨_,rfl⟩|⟨aHb,_⟩
    .gi_wp2
     go_end0
     exact⟨⟨_,rfl⟩,g⟩
    .exact absurd å aHb
def Ł(n₁:Nat)(up:Int)(I a:World->Prop)(x:Int)(W:World):Exit->Act->World->Prop
 | .normal,_,W'=>KeepsOthers W W'/\Below n₁ W W'/\I W'/\x≠up
 | .ret,_,W'=>KeepsOthers W W'/\a W'/\x=up
 | .exit _,_,_=>False
 | .goto _,_,_=>False
 | .panic _,_,_=>False
 | .outgrown,_,_=>False
def bS{P:Program}{n gf:Nat}{lb:Array Value}{g:Operand}{ps:Array Tmp}{assign body:Code}{Q:Exit->Act->World->Prop}{a:Act}{w:World}(h:Nat)(b:Bool)(up:Int)
  (hg:a.eval g= .func (.func gf) #[] lb) (u:∀args w,(callFunc gf args).run P w= .ok (.enter gf args) w) (s:h<w.heap.size)
  (ł:∀(l:Nat) (J o:World->Prop) (W:World),Below w.heap.size w W->(∀A B row,J A->A.grownBy B row->(∀r,row=some r->r=h)->J B)->
   (∀x W1,J W1->YieldAt Fence.wide (n-1 -1) P l #[.int .i64 x] W1 λe W'=>(e= .returned (.bool true)/\J W'/\Below w.heap.size W1 W'/\x≠up)\/(e= .returned (.bool false)/\o W'/\x=up))->J W->
   CallsIn Fence.wide (n-1) P gf (#[.func (.yield l) #[] #[]]++lb) W λe W'=>(∃v,e= .returned v)/\((b=false/\J W')\/(b=true/\o W')))
  (xm:ps.size=1) (I f:World->Prop) (hI:∀A B row,I A->A.grownBy B row->(∀r,row=some r->r=h\/w.heap.size<=r)->I B)
  (hIx:∀A B row,f A->A.grownBy B row->(∀r,row=some r->r=h\/w.heap.size<=r)->f B) (h0:I w) (a₁:Int->Act)
  (hassign:∀(l:Nat) (x:Int) (W:World) (K:Act->World->Prop),K (a₁ x) W->
   assign.wpIn (Fence.wide.inRound l) (n-1 -1) P (Exit.then K (λ_ _ _=>False)) {tmps:=(ps.zip #[.int .i64 x]).foldl (λt (p,v)=>t.setIfInBounds p v) a.tmps,defers:=[]} W)
  (WK:∀(l:Nat) (x:Int) (W:World),I W->body.wpIn (Fence.wide.inRound l) (n-1 -1) P (Ł w.heap.size up I f x W) (a₁ x) W)
  (mi:∀(D:Nat) (W:World),b=false->I W->W.heap[D]?=some (.deferred (some []))->w.heap.size<=D->Q .normal {a with defers:={target:= .collected D,args:=#[]}::a.defers} W)
  (mj:∀(D:Nat) (W:World),b=true->f W->W.heap[D]?=some (.deferred (some []))->w.heap.size<=D->Code.ret.wpIn Fence.wide n P Q {a with defers:={target:= .collected D,args:=#[]}::a.defers} W):
  (Code.rangeFunc g ps assign body).wpIn Fence.wide n P Q a w:=by
 refine wpIn_rangeFunc ?_;intro fn xg;have hro:Fence.wide.round=none:=rfl;rw[hro];obtain⟨rec,UQ⟩:∃rec:LoopState->Option Code->Loop,rec=λst q=>{state:=st,pending:=q,fn,tmps:=a.tmps,params:=ps,assign,body,defers:=w.heap.size}:=⟨_,rfl⟩;obtain⟨W1,c⟩:∃W1,(w.alloc (.deferred (some []))).alloc (.loop (rec .ready none))=W1:=⟨_,rfl⟩;have i:W1.heap[w.heap.size+1]?=some (.loop (rec .ready none)):=by rw[<-c];have:=World.alloc_heap_new (w.alloc (.deferred (some []))) (.loop (rec .ready none));rwa [World.size_alloc] at this
 have j:W1.heap[w.heap.size]?=some (.deferred (some [])):=by rw[<-c];exact(Below.heap_alloc _ _ _ Ax).trans (World.alloc_heap_new w _)
 have k:I W1:=by rw[<-c];exact hI _ _ none (hI _ _ none h0 (World.grownBy_alloc _ _ none) nofun) (World.grownBy_alloc _ _ none) nofun
 have S6:Below w.heap.size w W1:=by rw[<-c];exact(((Below.refl _ w).alloc (Ab _) _).alloc Ax _)
 refine⟨w.heap.size+1,[{target:= .collected w.heap.size,args:=#[]}],W1,{target:= .fn (.func gf) lb,args:=#[.func (.yield (w.heap.size+1)) #[] #[]]},W1,gf,
  #[.func (.yield (w.heap.size+1)) #[] #[]]++lb,W1,?_,?_,?_,?_,nofun,?_⟩
 .rw[<-c,UQ];exact run_enterLoop_outer _ _ _ _ _
 .simp only[resolve,hg];simp[go_sem]
 .intro f' lg;trivial
 .simp[invoke,go_sem,u]
 .refine(ł (w.heap.size+1)
   (λW=>I W/\W.heap[w.heap.size+1]?=some (.loop (rec .ready none))/\W.heap[w.heap.size]?=some (.deferred (some [])))
   (λW=>f W/\W.heap[w.heap.size+1]?=some (.loop (rec .done (some .ret)))/\W.heap[w.heap.size]?=some (.deferred (some [])))
   W1 S6
   (λA B row hs hg' hr=>⟨hI A B row hs.1 hg' (λr e=> .inl (hr r e)),(hg'.block _ (AO.1 hs.2.1).1 (λe=>by have:=hr _ e.symm;omega)).trans hs.2.1,
    (hg'.block _ (AO.1 hs.2.2).1 (λe=>by have:=hr _ e.symm;omega)).trans hs.2.2⟩)
   ?_ ⟨k,i,j⟩).mono ?_
  .rintro x W ⟨hi,hl,hk⟩;have hlt:w.heap.size+1<W.heap.size:=(AO.1 hl).1;have hy:=run_yield (P:=P) (args:=#[.int .i64 x]) hl (by rw[UQ];exact xm.symm);rw[UQ] at hy;refine⟨fn,_,assign,body,hy,roundIn_of_wpIn xg (hassign _ x W _ ⟨_,run_beginRound hl (by rw[UQ]),?_⟩)⟩;have pF:(W.putObj (w.heap.size+1) (.loop {rec .ready none with state:= .busy})).heap[w.heap.size+1]?=some (.loop {rec .ready none with state:= .busy}):=World.putObj_heap_same hlt;have WJ:(W.putObj (w.heap.size+1) (.loop {rec .ready none with state:= .busy})).heap[w.heap.size]?=some (.deferred (some [])):=(World.putObj_heap_other Ac).trans hk;have k_:Below w.heap.size W (W.putObj (w.heap.size+1) (.loop {rec .ready none with state:= .busy})):=belowK_b (Ab _) W _ _ _ Ac hl rfl rfl;refine wpIn_mono (WK _ x _ (hI _ _ _ hi (grownBy_putObj' W _ _) (λr e=> .inr (by cases e;omega)))) ?_;have IE:∀(jump:Option Code) (W3:World),KeepsOthers (W.putObj (w.heap.size+1) (.loop {rec .ready none with state:= .busy})) W3->
     (Instr.endRound (w.heap.size+1) jump).run P W3= .ok (.bool jump.isNone) (W3.putObj (w.heap.size+1) (.loop (rec (if jump.isNone then .ready else .done) jump)))/\
     W3.heap[w.heap.size+1]?=some (.loop {rec .ready none with state:= .busy})/\
     (W3.putObj (w.heap.size+1) (.loop (rec (if jump.isNone then .ready else .done) jump))).heap[w.heap.size+1]?=some (.loop (rec (if jump.isNone then .ready else .done) jump))/\
     (W3.putObj (w.heap.size+1) (.loop (rec (if jump.isNone then .ready else .done) jump))).heap[w.heap.size]?=some (.deferred (some [])):=λjump W3 pG=>by
    have gh:=pG.same _ _ pF rfl;have:=run_endRound (P:=P) jump gh;rw[UQ] at this⊢;exact⟨this,by rw[UQ] at gh;exact gh,World.putObj_heap_same (AO.1 gh).1,(World.putObj_heap_other Ac).trans (pG.same _ _ WJ rfl)⟩
   rintro e a3 W3 hp;cases e with
   |normal=>obtain⟨pG,aHd,Ļ,hne⟩:=hp;obtain⟨hr,gh,d,yh⟩:=IE none W3 pG;exact⟨_,_,hr,.inl ⟨rfl,⟨hI _ _ _ Ļ (grownBy_putObj' W3 _ _) (λr e=> .inr (by cases e;omega)),d,yh⟩,(k_.trans aHd).trans (belowK_b (Ab _) W3 _ _ _ Ac gh rfl rfl),hne⟩⟩
   |ret=>obtain⟨pG,Ļ,he⟩:=hp;obtain⟨hr,gh,d,yh⟩:=IE (some .ret) W3 pG;exact⟨_,_,hr,.inr ⟨rfl,⟨hIx _ _ _ Ļ (grownBy_putObj' W3 _ _) (λr e=> .inr (by cases e;omega)),d,yh⟩,he⟩⟩
   |exit id=>exact hp.elim
   |goto t=>exact hp.elim
   |panic y=>exact hp.elim
   |outgrown=>exact hp.elim
  .rintro e m ⟨⟨v,rfl⟩,⟨hb,hi,hl,hk⟩|⟨hb,hi,hl,hk⟩⟩;.exact⟨none,_,by have:=run_endLoop (P:=P) hl (by rw[UQ];simp);rw[UQ] at this;exact this,mi _ _ hb (hI _ _ _ hi (grownBy_putObj' m _ _) (λr e=> .inr (by cases e;omega))) ((World.putObj_heap_other Ac).trans hk) (Ab _)⟩
   .exact⟨some .ret,_,by have:=run_endLoop (P:=P) hl (by rw[UQ];simp);rw[UQ] at this;exact this,mj _ _ hb (hIx _ _ _ hi (grownBy_putObj' m _ _) (λr e=> .inr (by cases e;omega))) ((World.putObj_heap_other Ac).trans hk) (Ab _)⟩
def CI{W:World}{k j:Nat}{v:Value}(o:Obj)(h:W.cell? ⟨k,j,none⟩=some v):(W.alloc o).cell? ⟨k,j,none⟩=some v:=by rw[World.cell?_alloc_past _ _ _ (Dt h)];exact h
def KF{W:World}{k j:Nat}{v:Value}(o:Obj)(h:W.cell? ⟨k,j,none⟩=some v):(W.alloc o).frozen? ⟨k,j,none⟩=W.frozen? ⟨k,j,none⟩:=
 World.frozen?_alloc_past _ _ _ (Dt h)
def LH(W:World)(v:Value)(t:TypeId):(W.alloc (.cells #[v] t)).cell? ⟨W.heap.size,0,none⟩=some v/\(W.alloc (.cells #[v] t)).frozen? ⟨W.heap.size,0,none⟩=false:=by
 have h:(W.alloc (.cells #[v] t)).heap[W.heap.size]?=some (.cells #[v] t (0,0)):=World.alloc_heap_new W _;constructor;.simp only[World.cell?,h];rfl
 .simp only[World.frozen?,h];rfl
def WQ{A B:World}{row:Option Nat}{k:Nat}{v:Value}(h:A.cell? ⟨k,0,none⟩=some v)(hg:A.grownBy B row)(hr:∀r,row=some r->k≠r):
  B.cell? ⟨k,0,none⟩=some v/\B.frozen? ⟨k,0,none⟩=A.frozen? ⟨k,0,none⟩:=by
 have hb:B.heap[k]?=A.heap[k]?:=hg.block k (Dt h) (λe=>hr k e.symm rfl);exact⟨by rw[CG hb];exact h,by simp only[World.frozen?,hb]⟩
def Ń(ga gn off n cap:Nat)(cs:List Aa)(up x:Int)(w:World)(o:ga<w.heap.size)(æ:gn<w.heap.size)(Pe:n<=cap)(hm:cap<=maxLen)
  (hc:w.cell? ⟨ga,0,none⟩=some (.slice (some ⟨gn,off,none⟩) n cap))
  (hx:∀(h:Int) (k:Nat) (v:Int),1<=h->h<=n->(k=1\/k=12)->Gp cs off h k=some v->w.cell? ⟨gn,off+(h.toNat-1)*13+k,none⟩=some (.int .i64 v))
  (b:Bool) (hcl:Ls cs off n up (n+1) x=some b) (bD:1<=up) (Qs:up<=n) (Tq:1<=x) (bT:x<=n):
  Calls Proofs.Tryz.prog 149 #[.pointer (some ⟨ga,0,none⟩),.int .i64 up,.int .i64 x] w λe w'=>e= .returned (.bool b)/\Below w.heap.size w w':=by
 refine(callsIn_wide (n:=5)).1 ?_;refine callsIn_of_wp_marks Proofs.Tryz.func149 rfl trivial ?_;simp only[Proofs.Tryz.ntmps149,BU,AG,Bk,Nat.reduceAdd,Nat.reduceSub,J8,J9,Mg,Ky,BR,CD];have s:((w.alloc (.cells #[.int .i64 up] 3)).alloc (.cells #[.bool false] 4)).cell? ⟨ga,0,none⟩=some (.slice (some ⟨gn,off,none⟩) n cap):=by rw[World.cell?_alloc_past _ _ _ Ek,World.cell?_alloc_past _ _ _ o];exact hc
 have z:=LH w (.int .i64 up) 3;have d:=LH (w.alloc (.cells #[.int .i64 up] 3)) (.bool false) 4;have u:=LH ((w.alloc (.cells #[.int .i64 up] 3)).alloc (.cells #[.bool false] 4)) (.pointer (some ⟨ga,0,none⟩)) 40;have i:=LH (((w.alloc (.cells #[.int .i64 up] 3)).alloc (.cells #[.bool false] 4)).alloc (.cells #[.pointer (some ⟨ga,0,none⟩)] 40)) (.int .i64 x) 3;have t:=LH ((((w.alloc (.cells #[.int .i64 up] 3)).alloc (.cells #[.bool false] 4)).alloc (.cells #[.pointer (some ⟨ga,0,none⟩)] 40)).alloc (.cells #[.int .i64 x] 3)) (.bool true) 4;simp only[World.size_alloc] at d u i t;have H:decide (1<=up/\up<=n)=true:=Ak ⟨bD,Qs⟩;have G:decide (1<=x/\x<=n)=true:=Ak ⟨Tq,bT⟩;gi_wp2
 refine⟨trivial,(callsIn_wide.2 (ZF ga _ n cap up _ s)).mono ?_⟩;rintro e w' ⟨rfl,rfl⟩;rw[H];gi_wp2
 refine⟨trivial,(callsIn_wide.2 (ZF ga _ n cap x _ s)).mono ?_⟩;rintro e w' ⟨rfl,rfl⟩;rw[G];gi_wp2
 refine⟨trivial,(callsIn_wide.2 (aCy ga x _)).mono ?_⟩;rintro e w' ⟨rfl,rfl⟩;gi_wp2
 refine bS (gf:=272) (lb:=#[.pointer (some ⟨w.heap.size+1+1+1,0,none⟩),.pointer (some ⟨w.heap.size+1+1,0,none⟩),.pointer (some ⟨w.heap.size+1+1+1+1,0,none⟩)]) (w.heap.size+1+1+1) b up rfl (Go.Proofs.enters_of Proofs.Tryz.func272 C4 rfl) Ax
  ?ł rfl
  (λW=>Below w.heap.size w W/\W.cell? ⟨w.heap.size,0,none⟩=some (.int .i64 up)/\W.cell? ⟨w.heap.size+1,0,none⟩=some (.bool false)/\W.frozen? ⟨w.heap.size+1,0,none⟩=false)
  (λW=>Below w.heap.size w W/\W.cell? ⟨w.heap.size+1,0,none⟩=some (.bool true)) ?hI ?hIx ?h0
  (λy=>{tmps:=#[.pointer (some ⟨ga,0,none⟩),.int .i64 up,.int .i64 x,undef,.pointer (some ⟨w.heap.size,0,none⟩),undef,.pointer (some ⟨w.heap.size+1,0,none⟩),.int .i64 y,.pointer (some ⟨ga,0,none⟩),.int .i64 up,.bool true,.bool false,.bool false,.pointer (some ⟨ga,0,none⟩),.int .i64 x,.bool true,.bool false,.bool false,.pointer (some ⟨ga,0,none⟩),.int .i64 x,.func (.func 272) #[] #[.pointer (some ⟨w.heap.size+1+1+1,0,none⟩),.pointer (some ⟨w.heap.size+1+1,0,none⟩),.pointer (some ⟨w.heap.size+1+1+1+1,0,none⟩)],.int .i64 y,undef,undef,undef],defers:=[]})
  ?hassign ?WK ?mi ?mj
 case hI=>rintro A B row ⟨h1,h2,c,q⟩ hg hr;have Lt:=Dt c;have C:=WQ h2 hg (λr e=>by rcases hr r e with rfl|h<;>simp at* <;>omega);have m:=WQ c hg (λr e=>by rcases hr r e with rfl|h<;>simp at* <;>omega);exact⟨h1.grown hg Ac (λk e=>by rcases hr k e with rfl|h<;>simp at* <;>omega),C.1,m.1,m.2.trans q⟩
 case hIx=>rintro A B row ⟨h1,c⟩ hg hr;have Lt:=Dt c;have m:=WQ c hg (λr e=>by rcases hr r e with rfl|h<;>simp at* <;>omega);exact⟨h1.grown hg Ac (λk e=>by rcases hr k e with rfl|h<;>simp at* <;>omega),m.1⟩
 case h0=>
  refine⟨(((((Below.refl _ w).alloc (Ab _) _).alloc Ax _).alloc Ek _).alloc Ek _).alloc Ek _,?_,?_,?_⟩;.exact CI _ (CI _ (CI _ (CI _ z.1)))
  .exact CI _ (CI _ (CI _ d.1))
  .rw[KF _ (CI _ (CI _ d.1)),KF _ (CI _ d.1),KF _ d.1];exact d.2
 case ł=>
  intro l J I W hW F E hj;have kk:∀{k j:Nat} {v:Value},(((((w.alloc (.cells #[.int .i64 up] 3)).alloc (.cells #[.bool false] 4)).alloc (.cells #[.pointer (some ⟨ga,0,none⟩)] 40)).alloc (.cells #[.int .i64 x] 3)).alloc (.cells #[.bool true] 4)).cell? ⟨k,j,none⟩=some v->W.cell? ⟨k,j,none⟩=some v:=
   λ{k j v} h=>by rw[CG (hW.block k (Dt h))];exact h
  have hs:mB (w.heap.size+1+1) (w.heap.size+1+1+1+1) ga gn off n cap cs W:=
   ⟨kk (CI _ (CI _ u.1)),kk t.1,kk (CI _ (CI _ (CI _ s))),λh k v h1 h2 c q=>kk (CI _ (CI _ (CI _ (CI _ (CI _ (hx h k v h1 h2 c q))))))⟩
  refine aCz 4 l (w.heap.size+1+1+1) (w.heap.size+1+1) (w.heap.size+1+1+1+1) _ ga gn off n cap cs up J I F E ?_ Ax Pe hm W x hs (kk (CI _ i.1)) ?_ (n+1) b hcl hj;.rintro b (rfl|rfl|rfl|rfl)<;>simp<;>omega
  .have:W.frozen? ⟨w.heap.size+1+1+1,0,none⟩=_:=World.frozen?_of_block (hW.block (w.heap.size+1+1+1) Ax);rw[this,KF _ i.1];exact i.2
 case hassign=>
  intro l y W K f;have aHf:=Oper.semAt_some l;gi_wp2
  exact f
 case WK=>
  rintro l y W ⟨hb,YJ,KS,fo⟩;have aHf:=Oper.semAt_some l;gi_wp2
  .rename_i he;obtain rfl:y=up:=eq_of_beq he;exact⟨KeepsOthers.setCell _ _ _,⟨hb.setCell (Fj _) _,World.cell?_setCell_same _ _ _ KS⟩,rfl⟩
  .rename_i he;exact⟨KeepsOthers.refl _,Below.refl _ _,⟨hb,YJ,KS,fo⟩,λe=>by subst e;simp at he⟩
 case mi=>
  rintro D W rfl ⟨hb,YJ,KS,fo⟩ f p;gi_wp2
  have g:=(KeepsOthers.setCell W ⟨w.heap.size+1,0,none⟩ (.bool false)).same D _ f rfl;have a:=cell_kept (World.cell?_setCell_same W ⟨w.heap.size+1,0,none⟩ (.bool false) KS) (grownBy_putObj' _ D (.deferred none)) (λr e=>by cases e;exact⟨_,g,rfl⟩);refine⟨Ax,.inl ⟨_,_,rfl,run_takeDeferred g,?_⟩⟩;refine⟨.bool false,?_,rfl,(hb.setCell (Fj _) _).grown (grownBy_putObj' _ D _) (by have:=Dt KS;simp;omega) (λk e=>by cases e;simp at p;omega)⟩;simp[results,Proofs.Tryz.f149,go_sem,a]
 case mj=>
  rintro D W rfl ⟨hb,KS⟩ f p;gi_wp2
  have a:=cell_kept KS (grownBy_putObj' _ D (.deferred none)) (λr e=>by cases e;exact⟨_,f,rfl⟩);refine⟨Ax,.inl ⟨_,_,rfl,run_takeDeferred f,?_⟩⟩;refine⟨.bool true,?_,rfl,hb.grown (grownBy_putObj' _ D _) (by have:=Dt KS;omega) (λk e=>by cases e;simp at p;omega)⟩;simp[results,Proofs.Tryz.f149,go_sem,a]
def WR(ga:Nat)(p:Option Addr)(n cap:Nat)(up x:Int)(w:World)(hc:w.cell? ⟨ga,0,none⟩=some (.slice p n cap))(ho:¬(1<=up/\up<=n/\1<=x/\x<=n)):
  Calls Proofs.Tryz.prog 149 #[.pointer (some ⟨ga,0,none⟩),.int .i64 up,.int .i64 x] w λe w'=>e= .returned (.bool false)/\Below w.heap.size w w':=by
 have c:((w.alloc (.cells #[.int .i64 up] 3)).alloc (.cells #[.bool false] 4)).cell? ⟨ga,0,none⟩=some (.slice p n cap):=CI _ (CI _ hc);have a:=LH (w.alloc (.cells #[.int .i64 up] 3)) (.bool false) 4;simp only[World.size_alloc] at a;have hb:Below w.heap.size w ((w.alloc (.cells #[.int .i64 up] 3)).alloc (.cells #[.bool false] 4)):=((Below.refl _ w).alloc (Ab _) _).alloc Ax _;refine(callsIn_wide (n:=5)).1 ?_;refine callsIn_of_wp Proofs.Tryz.func149 rfl trivial ?_ rfl;simp only[Proofs.Tryz.ntmps149,BU,AG,Bk,Nat.reduceAdd,Nat.reduceSub,J8,J9,Mg,Ky,BR,CD];by_cases h1:1<=up/\up<=n
 .have b:decide (1<=up/\up<=n)=true:=Ak h1;have d:decide (1<=x/\x<=n)=false:=Ah λh2=>ho ⟨h1.1,h1.2,h2.1,h2.2⟩;gi_wp2
  refine⟨trivial,(callsIn_wide.2 (ZF ga _ n cap up _ c)).mono ?_⟩;rintro e w' ⟨rfl,rfl⟩;rw[b];gi_wp2
  refine⟨trivial,(callsIn_wide.2 (ZF ga _ n cap x _ c)).mono ?_⟩;rintro e w' ⟨rfl,rfl⟩;rw[d];gi_wp2
  refine bodyPost_ret (v:= .bool false) ?_ rfl ⟨rfl,hb⟩;simp[results,Proofs.Tryz.f149,go_sem,a.1]
 .have b:decide (1<=up/\up<=n)=false:=Ah h1;gi_wp2
  refine⟨trivial,(callsIn_wide.2 (ZF ga _ n cap up _ c)).mono ?_⟩;rintro e w' ⟨rfl,rfl⟩;rw[b];gi_wp2
  refine⟨trivial,?_⟩;gi_wp2
  refine bodyPost_ret (v:= .bool false) ?_ rfl ⟨rfl,hb⟩;simp[results,Proofs.Tryz.f149,go_sem,a.1]
section
variable{h:Ai}
def bU{cs:List Aa}{off:Nat}{x:Int}{k:Nat}{v:Int}(e:Gp cs off x k=some v):cs[off+(x.toNat-1)*13+k]?=some (.int .i64 v):=by
 unfold Gp at e;split at e;.rename_i a;cases e;exact a
 .cases e
def yi(n:Nat)(args:List Aa)(r:Aa)(h':Ai)(AH:IT.step (BZ cx) (IT.run (BZ cx) n) (Nl args) h=some (.ret,[r],h')):
  (∃fn c,cx.P.funcs[EO 149]?=some fn/\(fn.name== "runtime.NumGoroutine")=false/\fn.body=some c)/\
  ∀(U:Gh) (w:World) (cargs:Array Value),Hw U h w->(∀g cs,cx.GN g=some cs->CQ U cs g 0)->AX U args cargs.toList->
   Calls cx.P (EO 149) cargs w λe w'=>match e with
    | .returned v=>∃d,Hw d h' w'/\LR U w d w'/\BH d r v/\(cx.JA 149=true->∃s c,IP d w.heap.size w' s c v r)
    |_=>False:=by
 refine⟨⟨_,_,Proofs.Tryz.func149,rfl,rfl⟩,λU w cargs hi hg ha=>?_⟩;simp only[Nl,IT.step,DZ] at AH;cases e0:Nk h args with
 |none=>simp[e0] at AH
 |some E=>
 obtain⟨h1,G⟩:=E;simp only[e0] at AH;cases AH;have IE:∀(b:Bool) (cs:Array Value),h'=h->r= .bool b->Calls Proofs.Tryz.prog 149 cs w (λe w'=>e= .returned (.bool b)/\Below w.heap.size w w')->
   Calls cx.P (EO 149) cs w λe w'=>match e with
    | .returned v=>∃d,Hw d h' w'/\LR U w d w'/\BH d r v/\(cx.JA 149=true->∃s c,IP d w.heap.size w' s c v r)
    |_=>False:=by
  rintro b cs rfl rfl hc;refine hc.mono λe w' he=>?_;obtain⟨rfl,hb⟩:=he;obtain⟨kG,Tn⟩:=hi.LW hb;exact⟨U,kG,Tn,rfl,λe=>by cases e⟩
 unfold Nk at e0;split at e0
 .rename_i id up x;obtain⟨v0,us,Ù,⟨g,hm,rfl⟩,F,m,rfl,rfl,v2,pQ,rfl,rfl,hnil⟩:=ha;cases hnil;have a:cargs=#[.pointer (some ⟨g,0,none⟩),.int .i64 up,.int .i64 x]:=by apply Hi;simpa using Ù
  subst a;split at e0;.rename_i l hc;cases e0;obtain⟨_,y,hy,p⟩:=hi.R2 hc hm (j:=0) rfl;cases p;exact IE false _ rfl rfl (WR g none 0 0 up x w hy Ac)
  .rename_i C off len l hc;split at e0
   .rename_i cs hcs;split at e0
    .rename_i hl;obtain⟨_,y,hy,gn,cap,ß,rfl,A,⟨H,u⟩,q⟩:=hi.R2 hc hm (j:=0) rfl;have f:g<w.heap.size:=Dt hy;have æ:gn<w.heap.size:=by obtain⟨⟨us,e,fr,B,I⟩,_⟩:=hi.sz gn _ q;exact(AO.1 B).1
     split at e0
     .rename_i hr;cases i:Ls cs off len up (len+1) x with
      |none=>simp[i] at e0
      |some b=>simp only[i,BJ,Bx,M8] at e0;obtain⟨rfl,rfl⟩:=e0;refine IE b _ rfl rfl (Ń g gn off len cap cs up x w f æ A u hy (λt k v h1 h2 J D=>?_) b i hr.1 hr.2.1 hr.2.2.1 hr.2.2.2);obtain⟨_,z,hz,o⟩:=hi.R2 hcs ß (bU D);cases o;exact hz
     .rename_i hr;cases e0;exact IE false _ rfl rfl (WR g _ len cap up x w hy hr)
    .cases e0
   .cases e0
  .cases e0
 .cases e0
end
def OG{T e:TypeId}{B b:Nat}{bs:List Value}{W W':World}(h:Lib.IsBuilder T e B b bs W)(hb:Below W.heap.size W W'):Lib.IsBuilder T e B b bs W':=by
 have key:∀p,Lib.BuilderAt T e B b p bs W->Lib.BuilderAt T e B b p bs W':=λp ⟨hB,v,a,Fl,hne⟩=>by refine⟨hB,v,(hb.block b (AO.1 a).1).trans a,?_,hne⟩;exact Fl.kept (row:=none) ⟨hb.os,hb.tape,hb.output,hb.size,λk hk _=>hb.block k hk⟩ (Classical.em _)
 exact h.imp (key _) (key _)
def Ko(a b:List UInt8):Lib.byteCells (a++b)=Lib.byteCells a++Lib.byteCells b:=by simp[Lib.byteCells]
def byteCells_length(a:List UInt8):(Lib.byteCells a).length=a.length:=by simp[Lib.byteCells]
def rB(d:Nat):Lib.repeatL [32,32] d=List.replicate (2*d) 32:=by
 induction d with
 |zero=>rfl
 |succ d ih=>rw[Lib.repeatL,ih,(Ac:2*(d+1)=2*d+1+1),Kx,Kx];rfl
def rC:∀a:Aa,a.Mk=true->a.still=true
 | .bool _,_=>rfl
 | .int _ _,_=>rfl
 | .str _,_=>rfl
 |a,h=>by cases a<;>first|rfl|simp[Aa.Mk] at h
def Ui:∀l:List Aa,l.all Aa.Mk=true->I9 l=true
 |[],_=>rfl
 |a::l,h=>by simp only[aM,A7] at h;simp only[I9,A7];exact⟨rC a h.1,Ui l h.2⟩
section
variable{U:Gh}{h:Ai}{w:World}
def mC(hi:Hw U h w){id g:Nat}{cs:List Aa}(hc:h[id]?=some (.cells cs))(hm:U.mu id=some g):∀(n o:Nat),o+n<=cs.length->Mw (Cp cs 1 o n)=true->
  (Cp cs 1 o n).length=n/\EL (FX w) (Cp cs 1 o n) 1 g o
 |0,o,_,_=>⟨rfl,trivial⟩
 |n+1,o,hl,hs=>by
  have hlt:o<cs.length:=Ac;have a:(cs.drop o).take 1=[cs[o]]:=by rw[Ay hlt];rfl
  have j8:I9 ((cs.drop o).take 1)=true/\Mw (Cp cs 1 (o+1) n)=true:=by simpa only[Cp,Mw,A7] using hs
  obtain⟨p,q⟩:=mC hi hc hm n (o+1) Ac j8.2;rw[a] at j8;have IM:cs[o].still=true:=by simpa[I9] using j8.1
  obtain⟨u,hu,h1,hr⟩:=No hi hc hm (Au hlt);refine⟨by simp[Cp,p],?_⟩;simp only[Cp,a];exact⟨rfl,⟨⟨u,Tp hu h1,BH.mem hi _ _ IM hr⟩,trivial⟩,q⟩
def bV(w:World)(b o:Nat)(Bm:List (List Aa)):Prop:=
 ∃v,w.cell? ⟨b,o,none⟩=some v/\((v= .slice none 0 0/\Bm=[])\/
  (∃a c cap,v= .slice (some ⟨a,c,none⟩) Bm.length cap/\Bm.length<=cap/\cap<=maxLen/\a<w.heap.size/\EL (FX w) Bm 1 a c))
def ml(hi:Hw U h w){id g:Nat}(hm:U.mu id=some g){x:Int}{h1:Ai}{r:Aa}(e:au h [.ptr (some (id,0)),.int .i64 x]=some (h1,r)):
  h1=h/\∃gn off n cap row c Bm,r= .tuple [.Cu row,.int .i64 c,.sl 1 Bm]/\g<w.heap.size/\gn<w.heap.size/\w.cell? ⟨g,0,none⟩=some (.slice (some ⟨gn,off,none⟩) n cap)/\n<=cap/\cap<=maxLen/\
   1<=x/\x<=n/\CQ (FX w) row gn (off+(x.toNat-1)*13)/\w.cell? ⟨gn,off+(x.toNat-1)*13+11,none⟩=some (.int .i64 c)/\bV w gn (off+(x.toNat-1)*13+2) Bm:=by
 unfold au at e;split at e
 .rename_i Ft x' Kb;cases Kb;split at e
  .rename_i Y off n l hc;split at e
   .rename_i cs hcs;split at e
    .rename_i hx;split at e
     .rename_i A z H v t s q p o k kI c â hrow;split at e
      .rename_i IM;simp only[I9,A7,J7] at IM;obtain⟨s0,S,R,Q,P,O,N,M,L,C,B⟩:=IM;obtain⟨_,y,hy,gn,cap,ß,rfl,K,⟨q2,J⟩,W⟩:=hi.R2 hc hm (j:=0) rfl;have æ:gn<w.heap.size:=by obtain⟨⟨us,e,fr,D,X⟩,_⟩:=hi.sz gn _ W;exact(AO.1 D).1
       have get:∀(j:Nat) (a:Aa),j<13->[A,z,H,v,t,s,q,p,o,k,kI,.int .i64 c,â][j]?=some a->cs[off+(x.toNat-1)*13+j]?=some a:=λj a hj ha=>by rw[<-hrow,CN hj,Cn] at ha;exact ha
       have key:∀(j:Nat) (a:Aa),j<13->[A,z,H,v,t,s,q,p,o,k,kI,.int .i64 c,â][j]?=some a->a.still=true->∃u,(FX w).HW gn (off+(x.toNat-1)*13+j)=some u/\BH (FX w) a u:=λj a hj ha hs=>by obtain⟨u,hu,ho,hr⟩:=No hi hcs ß (get j a hj ha);exact⟨u,Tp hu ho,BH.mem hi _ _ hs hr⟩
       have wQ:w.cell? ⟨gn,off+(x.toNat-1)*13+11,none⟩=some (.int .i64 c):=by obtain⟨u,hu,_,hr⟩:=No hi hcs ß (get 11 _ Ac rfl);cases hr;exact hu
       obtain⟨Z,Qs,wA,Lu⟩:=No hi hcs ß (get 2 H Ac rfl);have mk:∀(E:Aa),(∃u,(FX w).HW gn (off+(x.toNat-1)*13+2)=some u/\BH (FX w) E u)->CQ (FX w) [A,z,E,v,t,s,q,p,o,k,kI,.int .i64 c,â] gn (off+(x.toNat-1)*13):=λE h2=>⟨key 0 A Ac rfl s0,key 1 z Ac rfl S,h2,key 3 v Ac rfl R,key 4 t Ac rfl Q,key 5 s Ac rfl P,key 6 q Ac rfl O,key 7 p Ac rfl N,key 8 o Ac rfl M,key 9 k Ac rfl L,key 10 kI Ac rfl C,key 11 _ Ac rfl rfl,key 12 â Ac rfl B,trivial⟩
       have hg:=Dt hy;split at e;.cases e;cases Lu;exact⟨rfl,gn,off,n,cap,_,c,[],rfl,hg,æ,hy,K,J,hx.1,hx.2.1,mk _ ⟨_,Tp Qs wA,rfl⟩,wQ,_,Qs,.inl ⟨rfl,rfl⟩⟩
       .rename_i MU f m;split at e
        .rename_i ks xj;split at e
         .rename_i hk;cases e;obtain⟨i,b,F,rfl,I,⟨r2,V⟩,T⟩:=Lu;obtain⟨d,t2⟩:=mC hi xj F m f Ac hk.2;have G:i<w.heap.size:=by obtain⟨⟨us,e,fr,D,X⟩,_⟩:=hi.sz i _ T;exact(AO.1 D).1
          refine⟨rfl,gn,off,n,cap,_,c,Cp ks 1 f m,rfl,hg,æ,hy,K,J,hx.1,hx.2.1,mk _ ⟨_,Tp Qs wA,⟨i,f,none⟩,b,by rw[d],by rw[d];exact I,.inl rfl,t2⟩,wQ,_,Qs,.inr ⟨i,f,b,by rw[d],by rw[d];exact I,V,G,t2⟩⟩
         .cases e
        .cases e
       .cases e
      .cases e
     .cases e
    .cases e
   .cases e
  .cases e
 .cases e
def yj{n:Nat}(hs:EV cx (IT.run (BZ cx) n))(hi:Hw U h w)(hg:∀g cs,cx.GN g=some cs->CQ U cs g 0){row:List Aa}{s:Aj}{h1:Ai}(e:IT.run (BZ cx) n (BZ cx 190 [.Cu row]) []=some (.ret,[.str s],h1))
  {W:World} (hb:Below w.heap.size w W) {gn o:Nat} (hr:CQ (FX w) row gn o):
  Calls Proofs.Tryz.prog 190 #[.pointer (some ⟨gn,o,none⟩)] W λe W'=>e= .returned (.string ⟨⟨s⟩⟩)/\Below W.heap.size W W':=by
 refine((hs.2 190 _ _ _ _ e).2 (FX W) W #[.pointer (some ⟨gn,o,none⟩)] (ma W) (λg cs Õ=>CQ.mono (l8 hb) cs g 0 (CQ.mem hi cs g 0 (Ui cs (hs.1.1 g cs Õ)) (hg g cs Õ)))
  ⟨_,_,rfl,⟨gn,o,rfl,CQ.mono (l8 hb) row gn o hr⟩,rfl⟩).mono λe W' he=>?_
 cases e with
 |returned v=>obtain⟨a,_,ha,hv,_⟩:=he;cases hv;exact⟨rfl,ha.os,ha.tape,ha.output,ha.size,λk hk=>(ha.NS k hk (λid=>by simp[FX])).1⟩
 |_=>exact he.elim
end
def yk{w:World}{b o:Nat}{Bm:List (List Aa)}(h:bV w b o Bm):∃p cap,w.cell? ⟨b,o,none⟩=some (.slice p Bm.length cap)/\Bm.length<=cap/\cap<=maxLen/\
  ∀(i:Nat) (y:Int),Bm[i]?=some [.int .i64 y]->∃a c,p=some ⟨a,c,none⟩/\a<w.heap.size/\w.cell? ⟨a,c+i,none⟩=some (.int .i64 y):=by
 obtain⟨v,hv,⟨rfl,rfl⟩|⟨a,c,cap,rfl,h1,h2,e,d⟩⟩:=h;.exact⟨none,0,hv,Ab _,AM,λi y hi=>by simp at hi⟩
 .refine⟨_,cap,hv,h1,h2,λi y hi=>⟨a,c,rfl,e,?_⟩⟩;obtain⟨_,⟨u,hu,hr⟩,_⟩:=EL.get d hi;cases hr;have:=hu;simp only[FX,Qx] at this;simpa using this.1
def mD(l:List UInt8):Lib.strCells ⟨l.toArray⟩=Lib.byteCells l:=by simp[Lib.strCells,Lib.byteCells]
def bW(l:List UInt8):Lib.strCells ⟨⟨l⟩⟩=Lib.byteCells l:=by simp[Lib.strCells,Lib.byteCells]
def rD(i n:Nat)(h:i<n)(hn:n<=9223372036854775807):wrap64 ((i:Int)+1)=((i+1:Nat):Int):=by rw[Go.IntWalk.wrap64_in _ ⟨Ac,Ac⟩];omega
def ZG(d:Nat)(h:d<=1000):wrap64 ((d:Int)+1)=((d+1:Nat):Int):=by rw[Go.IntWalk.wrap64_in _ ⟨Ac,Ac⟩];omega
abbrev gi(g:Nat)(w0:World)(x:Int)(d:Nat)(DE Ra:Aj):Prop:=
 ∀(B b:Nat) (W:World),w0.heap.size<=B->B<=W.heap.size->Below w0.heap.size w0 W->Lib.IsBuilder 145 5 B b (Lib.byteCells DE) W->
  Calls Proofs.Tryz.prog 99 #[.pointer (some ⟨g,0,none⟩),.pointer (some ⟨b,0,none⟩),.int .i64 x,.int .i64 d] W λe W'=>(∃v,e= .returned v)/\Lib.IsBuilder 145 5 B b (Lib.byteCells Ra) W'/\Below B W W'
def bb{p:Prop}(h:p):Hid p:=h
def LX{w0 W':World}{k j:Nat}{v:Value}(hb:Below w0.heap.size w0 W')(h:w0.cell? ⟨k,j,none⟩=some v):W'.cell? ⟨k,j,none⟩=some v:=by rw[CG (hb.block k (Dt h))];exact h
def rE:Code->Code
 | .seq _ c=>rE c
 | .block _ c=>c
 |c=>c
noncomputable def mn:Code:=match Proofs.Tryz.f99.body with
 |some c=>rE c
 |none=> .skip
def mo{w0 W W6:World}{g B b d a:Nat}{p:Option Addr}{Bm:List (List Aa)}(hB:w0.heap.size<=B)(h:B<=W.heap.size)(hb:Below w0.heap.size w0 W)(hd:d<=1000)
  (WJ:Bm.length<=a) (pG:a<=maxLen) (yh:∀(i:Nat) (y:Int),Bm[i]?=some [.int .i64 y]->∃l ko,p=some ⟨l,ko,none⟩/\l<w0.heap.size/\w0.cell? ⟨l,ko+i,none⟩=some (.int .i64 y))
  (f:Nat->Aj) (hf:∀i,i<Bm.length->∃y,Bm[i]?=some [.int .i64 y]/\gi g w0 y (d+1) (f i) (f (i+1))) (j:Below B W W6) (l6:Lib.IsBuilder 145 5 B b (Lib.byteCells (f 0)) W6)
  (z2 z4 z5 z6 z7 z8 z9 z10 z11 z12 z13 z14 Z z16 Y X V z20 U z22 T S R Q P O N M L K J I H G z37 F E D C A z x w u t z51 s z53 r q o n m:Value):
  mn.wpIn Fence.wide 5 Proofs.Tryz.prog (Exit.inBlock 0<|bodyPost Proofs.Tryz.prog Proofs.Tryz.f99 λe W'=>(∃v,e= .returned v)/\Lib.IsBuilder 145 5 B b (Lib.byteCells (f Bm.length)) W'/\Below B W W')
   {tmps:=#[.pointer (some ⟨g,0,none⟩),.pointer (some ⟨b,0,none⟩),z2,.int .i64 d,z4,z5,z6,z7,z8,z9,z10,z11,z12,z13,z14,Z,z16,Y,X,V,z20,U,z22,T,S,R,Q,P,O,N,M,L,K,J,I,H,G,z37,F,E,D,C,A,z,x,w,.slice p Bm.length a,.int .i64 Bm.length,.int .i64 0,u,t,z51,s,z53,r,q,o,n,m],defers:=[]} W6:=by
 simp only[mn,rE,Proofs.Tryz.f99];gi_loopg [48] Bm.length (λk v wr=>∃i,i<=Bm.length/\k=Bm.length-i/\v= .int .i64 (i:Nat)/\Below B W wr/\Lib.IsBuilder 145 5 B b (Lib.byteCells (f i)) wr)
 case atStart=>exact⟨0,Bc _,rfl,rfl,j,l6⟩
 case round=>
  obtain⟨i,hi,rfl,rfl,bbi,li⟩:=hrel;by_cases hlt:i<Bm.length
  .obtain⟨y,hy,ç⟩:=hf i hlt;obtain⟨l,ko,rfl,hgk,Jj⟩:=yh i y hy;have c:Below w0.heap.size w0 wr:=hb.trans (bbi.mono hB);have ci:=LX c Jj;have aNg:(i:Int)<(Bm.length:Int):=by exact_mod_cast hlt
   have hwi:=rD i _ hlt (Bn WJ pG);have hwd:=ZG d hd;have Vc:=ç B b _ hB (Bn h bbi.size) c li;clear ç hf yh WJ pG c li l6 j Jj hy hgk hB h hb;rw[show((d+1:Nat):Int)=(d:Int)+1 from rfl] at Vc;gi_wp2
   refine⟨trivial,(callsIn_wide.2 Vc).mono ?_⟩;rintro e W7 ⟨⟨v,rfl⟩,l7,b7⟩;gi_wp2
   gi_roundg (Bm.length-(i+1))
   case measure=>exact Nat.sub_lt_sub_left hlt (SZ i)
   case rel=>refine⟨i+1,hlt,rfl,?_,bbi.trans b7,l7⟩;first|rfl|exact Cm (Value.int .i64) hwi
  .obtain rfl:i=Bm.length:=Nat.le_antisymm hi (Nat.le_of_not_lt hlt);gi_wp2
   go_end0
   exact⟨⟨_,rfl⟩,li,bbi⟩
def ń{w0:World}{g gn off n cap:Nat}{c x:Int}{Bm:List (List Aa)}(Ĳ:g<w0.heap.size)(æ:gn<w0.heap.size)(hc:w0.cell? ⟨g,0,none⟩=some (.slice (some ⟨gn,off,none⟩) n cap))(Pe:n<=cap)(hm:cap<=maxLen)
  (Tq:1<=x) (bT:x<=n) (bX:w0.cell? ⟨gn,off+(x.toNat-1)*13+11,none⟩=some (.int .i64 c)) (hk:bV w0 gn (off+(x.toNat-1)*13+2) Bm)
  {d:Nat} (hd:d<=1000) {DE h s:Aj}
  (wR:∀W,Below w0.heap.size w0 W->Calls Proofs.Tryz.prog 190 #[.pointer (some ⟨gn,off+(x.toNat-1)*13,none⟩)] W λe W'=>e= .returned (.string ⟨⟨s⟩⟩)/\Below W.heap.size W W')
  (hlen:(DE++List.replicate (2*d) 32++s++[10]).length<=AJ)
  (wS:(c=0/\h=DE++List.replicate (2*d) 32++s++[10])\/(c≠0/\gi g w0 c (d+1) (DE++List.replicate (2*d) 32++s++[10]) h))
  (f:Nat->Aj) (vu:f 0=h) (hf:∀i,i<Bm.length->∃y,Bm[i]?=some [.int .i64 y]/\gi g w0 y (d+1) (f i) (f (i+1))):
  gi g w0 x d DE (f Bm.length):=by
 intro B b W hB a hb F;obtain⟨p,O,pA,WJ,pG,yh⟩:=yk hk;have Ö:AJ=140737488355328:=rfl;simp only[Ao,Hk,AG,Bk] at hlen;have N:2*d<=140737488355328:=by rw[Ö] at hlen;omega
 have M:(Lib.byteCells DE).length+(⟨(List.replicate (2*d) (32:UInt8)).toArray⟩:ByteArray).size<=140737488355328:=by rw[Ö] at hlen;rw[byteCells_length];simp only[ByteArray.size,BU,Hk];omega
 have L:(Lib.byteCells (DE++List.replicate (2*d) 32)).length+(⟨⟨s⟩⟩:ByteArray).size<=140737488355328:=by rw[Ö] at hlen;rw[byteCells_length];simp only[ByteArray.size,Ao,Hk];show _+s.length<=_;omega
 have K:(Lib.byteCells (DE++List.replicate (2*d) 32++s)).length+1<=140737488355328:=by rw[Ö] at hlen;rw[byteCells_length];simp only[Ao,Hk];omega
 have J:d<=9223372036854775807:=Bn hd AM;clear hlen Ö;have Hline:=bb wR;have m:=bb wS;have R:=bb hf;have u:=bb yh;have z:=bb WJ;have w:=bb pG;clear wR wS hf yh hk WJ pG;refine(callsIn_wide (n:=5)).1 ?_;refine callsIn_of_wp Proofs.Tryz.func99 rfl trivial ?_ rfl;simp only[Proofs.Tryz.ntmps99,BU,AG,Bk,Nat.reduceAdd,Nat.reduceSub,J8,J9,Mg,Ky,BR,CD];gi_wp2
 refine⟨trivial,(callsIn_wide.2 (aCx g gn off n cap x _ (LX hb hc) Tq bT Pe hm)).mono ?_⟩;rintro e w' ⟨rfl,rfl⟩;gi_wp2
 refine⟨trivial,(callsIn_wide.2 (Proofs.Tryz.strings_Repeat ⟨#[32,32]⟩ d _ J N)).mono ?_⟩;rintro e W1 ⟨rfl,b1⟩;have S6:Below w0.heap.size w0 W1:=hb.trans (b1.mono hb.size);have t:Below B W W1:=b1.mono a;have l1:=OG F b1;have hr:(Lib.repeatL (⟨#[32,32]⟩:ByteArray).data.toList d)=List.replicate (2*d) 32:=rB d;rw[hr];gi_wp2
 refine⟨trivial,(callsIn_wide.2 (Proofs.Tryz.Builder_WriteString B b (Lib.byteCells DE) _ _ l1 M (Bn a t.size))).mono ?_⟩;rintro e V ⟨rfl,D,b2⟩;rw[mD,<-Ko] at D;have r:=t.trans b2;have Qt:Below w0.heap.size w0 V:=S6.trans (b2.mono hB);gi_wp2
 refine⟨trivial,(callsIn_wide.2 (Hline.out _ Qt)).mono ?_⟩;rintro e W3 ⟨rfl,b3⟩;have Ņ:Below w0.heap.size w0 W3:=Qt.trans (b3.mono Qt.size);have q:Below B W W3:=r.trans (b3.mono (Bn a r.size));have l3:=OG (.inr D) b3;gi_wp2
 refine⟨trivial,(callsIn_wide.2 (Proofs.Tryz.Builder_WriteString B b _ _ _ l3 L (Bn a q.size))).mono ?_⟩;rintro e U ⟨rfl,l4,b4⟩;rw[bW,<-Ko] at l4;have o:=q.trans b4;have H:Below w0.heap.size w0 U:=Ņ.trans (b4.mono hB);gi_wp2
 refine⟨trivial,(callsIn_wide.2 (Proofs.Tryz.Builder_WriteByte B b _ 10 _ (.inr l4) K (Bn a o.size))).mono ?_⟩;rintro e Q ⟨rfl,A,b5⟩;have I:Lib.byteCells (DE++List.replicate (2*d) 32++s)++[Value.int .u8 10]=Lib.byteCells (DE++List.replicate (2*d) 32++s++[10]):=by rw[Ko (DE++List.replicate (2*d) 32++s) [10]];rfl
 replace A:=I▸A;have l:=o.trans b5;have j:Below w0.heap.size w0 Q:=H.trans (b5.mono hB);have X:=LX j bX;clear Pe hm Tq bT hc N M L K J l1 l3 l4 D;rcases m.out with⟨rfl,rfl⟩|⟨E,mq⟩
 .have k:=l;have l6:Lib.IsBuilder 145 5 B b (Lib.byteCells (f 0)) Q:=by rw[vu];exact .inr A
  have T:=LX j pA;gi_wp2
  exact mo hB a hb hd z.out w.out u.out f R.out k l6 _ _ _ _ _ _ _ _ _ _ _ _ _ _ _ _ _ _ _ _ _ _ _ _ _ _ _ _ _ _ _ _ _ _ _ _ _ _ _ _ _ _ _ _ _ _ _ _ _ _ _ _ _
 .have hne:(c != 0)=true:=by simp[E]
  have S:=ZG d hd;have aCD:=mq B b _ hB (Bn a l.size) j (.inr A);rw[show((d+1:Nat):Int)=(d:Int)+1 from rfl] at aCD;gi_wp2
  refine⟨trivial,(callsIn_wide.2 aCD).mono ?_⟩;rintro e P ⟨⟨v,rfl⟩,C,b6⟩;have k:=l.trans b6;have G:Below w0.heap.size w0 P:=j.trans (b6.mono hB);have l6:Lib.IsBuilder 145 5 B b (Lib.byteCells (f 0)) P:=by rw[vu];exact C
  have T:=LX G pA;gi_wp2
  exact mo hB a hb hd z.out w.out u.out f R.out k l6 _ _ _ _ _ _ _ _ _ _ _ _ _ _ _ _ _ _ _ _ _ _ _ _ _ _ _ _ _ _ _ _ _ _ _ _ _ _ _ _ _ _ _ _ _ _ _ _ _ _ _ _ _
section
variable{U:Gh}{h:Ai}{w0:World}
abbrev ņ(fuel d:Nat)(a:Aa):List Aa->(Aj->IT)->Aj->IT:=λMU K DE=>match MU with
 |[.int .i64 y]=>HD 190 a fuel y (d+1) DE K
 |_=> .fail
def mE{run:IT->Ai->Option Ju}{g fuel d:Nat}{a:Aa}(ih:∀(x:Int) (DE:Aj) (k:Aj->IT) (res:Ju),IT.step (BZ cx) run (HD 190 a fuel x (d+1) DE k) h=some res->∃Ra,IT.step (BZ cx) run (k Ra) h=some res/\gi g w0 x (d+1) DE Ra):
  ∀(Bm:List (List Aa)) (DE:Aj) (k:Aj->IT) (res:Ju),IT.step (BZ cx) run (Bm.foldr (ņ fuel d a) k DE) h=some res->
   ∃f:Nat->Aj,f 0=DE/\IT.step (BZ cx) run (k (f Bm.length)) h=some res/\∀i,i<Bm.length->∃y,Bm[i]?=some [.int .i64 y]/\gi g w0 y (d+1) (f i) (f (i+1))
 |[],DE,k,res,e=>⟨λ_=>DE,rfl,e,λi hi=>by simp at hi⟩
 |MU::Bm,DE,k,res,e=>by
  simp only[List.foldr_cons] at e;unfold ņ at e;split at e
  .rename_i y;obtain⟨b,j,l⟩:=ih _ _ _ _ e;obtain⟨f,f0,f1,f2⟩:=mE ih Bm b k res j;refine⟨λ|0=>DE|i+1=>f i,rfl,f1,λi hi=>?_⟩;cases i with
   |zero=>
    have hc:gi g w0 y (d+1) DE (f 0):=by rw[f0];exact l
    exact⟨y,rfl,hc⟩
   |succ i=>obtain⟨c,p,q⟩:=f2 i (by simpa using hi);exact⟨c,by simpa using p,q⟩
  .cases e
def mr{run:IT->Ai->Option Ju}{a:Aa}{x:Int}{d:Nat}{DE:Aj}{k:Aj->IT}{res:Ju}(fuel:Nat)(e:IT.step (BZ cx) run (HD 190 a fuel x d DE k) h=some res):∃id,a= .ptr (some (id,0)):=by
 cases fuel with
 |zero=>simp[HD,IT.step] at e
 |succ fuel=>
  simp only[HD,IT.step,DZ] at e;cases e0:au h [a,.int .i64 x] with
  |none=>simp[e0] at e
  |some b=>
   unfold au at e0;split at e0;.rename_i id x' Kb;cases Kb;exact⟨id,rfl⟩
   .cases e0
def mF{n:Nat}(hs:EV cx (IT.run (BZ cx) n))(hi:Hw U h w0)(hg:∀g cs,cx.GN g=some cs->CQ U cs g 0){id g:Nat}(hm:U.mu id=some g):
  ∀(fuel:Nat) (x:Int) (d:Nat) (DE:Aj) (k:Aj->IT) (res:Ju),d+fuel<=1000->IT.step (BZ cx) (IT.run (BZ cx) n) (HD 190 (.ptr (some (id,0))) fuel x d DE k) h=some res->
   ∃Ra,IT.step (BZ cx) (IT.run (BZ cx) n) (k Ra) h=some res/\gi g w0 x d DE Ra/\∃p cap ln,w0.cell? ⟨g,0,none⟩=some (.slice p ln cap)/\1<=x/\x<=ln
 |0,x,d,DE,k,res,_,e=>by simp[HD,IT.step] at e
 |fuel+1,x,d,DE,k,res,hd,e=>by
  simp only[HD,IT.step,DZ] at e;cases e0:au h [.ptr (some (id,0)),.int .i64 x] with
  |none=>simp[e0] at e
  |some m=>
  obtain⟨h1,r⟩:=m;simp only[e0] at e;obtain⟨j,gn,off,t,cap,row,c,Bm,rfl,Ĳ,æ,hc,Pe,yl,Tq,bT,hrow,bX,hk⟩:=ml hi hm e0;simp only[IT.step] at e;rw[j] at e;clear j;cases i:IT.run (BZ cx) n (BZ cx 190 [.Cu row]) [] with
  |none=>simp[i] at e
  |some u=>
  simp only[i] at e;split at e
  .rename_i o Ñ Kb;cases Kb;split at e
   .split at e
    .rename_i s Iq;split at e
     .rename_i hlen;have ih:∀(x:Int) (DE:Aj) (k:Aj->IT) (res:Ju),IT.step (BZ cx) (IT.run (BZ cx) n) (HD 190 (.ptr (some (id,0))) fuel x (d+1) DE k) h=some res->∃Ra,IT.step (BZ cx) (IT.run (BZ cx) n) (k Ra) h=some res/\gi g w0 x (d+1) DE Ra:=λx DE k res e=>by obtain⟨Ra,p,q,_⟩:=mF hs hi hg hm fuel x (d+1) DE k res Ac e;exact⟨Ra,p,q⟩
      have wR:∀W,Below w0.heap.size w0 W->Calls Proofs.Tryz.prog 190 #[.pointer (some ⟨gn,off+(x.toNat-1)*13,none⟩)] W λe W'=>e= .returned (.string ⟨⟨s⟩⟩)/\Below W.heap.size W W':=
       λW hb=>yj hs hi hg i hb hrow
      have IE:∀a,((c=0/\a=DE++List.replicate (2*d) 32++s++[10])\/(c≠0/\gi g w0 c (d+1) (DE++List.replicate (2*d) 32++s++[10]) a))->
        IT.step (BZ cx) (IT.run (BZ cx) n) (Bm.foldr (ņ fuel d (.ptr (some (id,0)))) k a) h=some res->∃Ra,IT.step (BZ cx) (IT.run (BZ cx) n) (k Ra) h=some res/\gi g w0 x d DE Ra/\∃p cap ln,w0.cell? ⟨g,0,none⟩=some (.slice p ln cap)/\1<=x/\x<=ln:=by
       intro a wS l;obtain⟨f,f0,f1,f2⟩:=mE ih Bm a k res l;exact⟨f Bm.length,f1,ń Ĳ æ hc Pe yl Tq bT bX hk Ac wR hlen wS f f0 f2,_,_,_,hc,Tq,bT⟩
      split at e;.rename_i b;exact IE _ (.inl ⟨b,rfl⟩) e
      .rename_i b;obtain⟨a,p,q⟩:=ih _ _ _ _ e;exact IE a (.inr ⟨b,q⟩) p
     .cases e
    .cases e
   .cases e
  .cases e
end
def Ň{w0:World}{g ln cap:Nat}{p:Option Addr}{x:Int}{s:Aj}(Ĳ:g<w0.heap.size)(hc:w0.cell? ⟨g,0,none⟩=some (.slice p ln cap))(Tq:1<=x)(bT:x<=ln)(mq:gi g w0 x 0 [] s):
  Calls Proofs.Tryz.prog 42 #[.pointer (some ⟨g,0,none⟩),.int .i64 x] w0 λe w'=>e= .returned (.string ⟨⟨s⟩⟩)/\Below w0.heap.size w0 w':=by
 have b:decide (1<=x/\x<=ln)=true:=Ak ⟨Tq,bT⟩;have aHl:(w0.alloc (.cells #[.pointer none,.slice none 0 0] 145)).heap[w0.heap.size]?=some (.cells #[.pointer none,.slice none 0 0] 145 (0,0)):=World.alloc_heap_new w0 _;have S6:Below w0.heap.size w0 (w0.alloc (.cells #[.pointer none,.slice none 0 0] 145)):=(Below.refl _ w0).alloc (Ab _) _;have l1:Lib.IsBuilder 145 5 w0.heap.size w0.heap.size (Lib.byteCells []) (w0.alloc (.cells #[.pointer none,.slice none 0 0] 145)):=
  .inl ⟨Ab _,.slice none 0 0,aHl,World.ownsRow_nil _ _ _ _,by simp[Value.ownBlock]⟩
 have Vc:=mq w0.heap.size w0.heap.size _ (Ab _) Ax S6 l1;rw[show((0:Nat):Int)=0 from rfl] at Vc;refine(callsIn_wide (n:=5)).1 ?_;refine callsIn_of_wp Proofs.Tryz.func42 rfl trivial ?_ rfl;simp only[Proofs.Tryz.ntmps42,BU,AG,Bk,Nat.reduceAdd,Nat.reduceSub,J8,J9,Mg,Ky,BR,CD];gi_wp2
 refine⟨trivial,(callsIn_wide.2 (ZF g _ ln cap x _ hc)).mono ?_⟩;rintro e w' ⟨rfl,rfl⟩;rw[b];gi_wp2
 refine⟨trivial,(callsIn_wide.2 Vc).mono ?_⟩;rintro e c ⟨⟨v,rfl⟩,a,b2⟩;gi_wp2
 refine⟨trivial,(callsIn_wide.2 (Proofs.Tryz.Builder_String_any w0.heap.size w0.heap.size s _ a (by have:=b2.size;have:=S6.size;omega))).mono ?_⟩;rintro e W3 ⟨rfl,b3⟩;gi_wp2
 refine bodyPost_ret (results_tmp rfl _ _ _) rfl ?_;exact⟨rfl,(S6.trans b2).trans b3⟩
def ň{h:Ai}(n:Nat)(hs:EV cx (IT.run (BZ cx) n))(args:List Aa)(r:Aa)(h':Ai)(AH:IT.step (BZ cx) (IT.run (BZ cx) n) (wL 190 args) h=some (.ret,[r],h')):
  (∃fn c,cx.P.funcs[EO 42]?=some fn/\(fn.name== "runtime.NumGoroutine")=false/\fn.body=some c)/\
  ∀(U:Gh) (w:World) (cargs:Array Value),Hw U h w->(∀g cs,cx.GN g=some cs->CQ U cs g 0)->AX U args cargs.toList->
   Calls cx.P (EO 42) cargs w λe w'=>match e with
    | .returned v=>∃d,Hw d h' w'/\LR U w d w'/\BH d r v/\(cx.JA 42=true->∃s c,IP d w.heap.size w' s c v r)
    |_=>False:=by
 refine⟨⟨_,_,Proofs.Tryz.func42,rfl,rfl⟩,λU w cargs hi hg ha=>?_⟩;have aHm:∃id x,args=[.ptr (some (id,0)),.int .i64 x]:=by
  unfold wL at AH;split at AH;.rename_i a x;obtain⟨id,rfl⟩:=mr _ AH;exact⟨id,x,rfl⟩
  .cases AH
 obtain⟨id,x,rfl⟩:=aHm;obtain⟨v0,us,Ù,⟨g,hm,rfl⟩,j,f,rfl,rfl,hnil⟩:=ha;cases hnil;have b:cargs=#[.pointer (some ⟨g,0,none⟩),.int .i64 x]:=by apply Hi;simpa using Ù
 subst b;simp only[wL] at AH;obtain⟨DE,i,mq,p,cap,ln,hc,Tq,bT⟩:=mF hs hi hg hm 100 x 0 [] _ _ Ac AH;cases i;refine(Ň (Dt hc) hc Tq bT mq).mono λe w' he=>?_;obtain⟨rfl,hb⟩:=he;obtain⟨kG,Tn⟩:=hi.LW hb;exact⟨U,kG,Tn,rfl,λe=>by cases e⟩
end Go.Am
end
section
namespace Go.Am
open Go
def ym:bK cx:=by
 refine⟨λf hf=>?_,λf p hp n hs args h r h' AH=>?_⟩
 .simp only[cx,aCm] at hf;split at hf;.exact a_
  .cases hf
 .simp only[cx,ã] at hp;split at hp;.cases hp;exact ň n hs args r h' AH
  .cases hp;exact yi n args r h' AH
  .cases hp;exact yg n hs args r h' AH
  .cases hp
end Go.Am
end
