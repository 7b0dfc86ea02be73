/- Lemmas -/
import Derived.Test.YtjjnhgoknielgaaGreatDoorZ15
import Derived.RangeFuncBox
import Derived.OwnWalkIn
import Derived.TacticsInMore
import Derived.LoopNIn
import Derived.Sort.LoopGhostIn
set_option linter.all false
set_option maxHeartbeats 0
set_option maxRecDepth 100000
section
namespace Go.Am
open Go Go.RowKit Go.Shelf
def cA(ga:Nat)(p:Option Addr)(n cap:Nat)(x:Int)(w:World)(hc:w.cell? ⟨ga,0,none⟩=some (.slice p n cap)):
  Calls Proofs.Tryz.prog 22 #[.pointer (some ⟨ga,0,none⟩),.int .i64 x] w λe w'=>e= .returned (.bool (decide (1<=x/\x<=n)))/\w=w':=by
 go_enter Proofs.Tryz.func22,Proofs.Tryz.ntmps22
 go_wp2
 all_goals refine bodyPost_ret (results_tmp rfl _ _ _) rfl ?_
 all_goals simp_all
 all_goals omega
def aIj(ga gn off n cap:Nat)(x:Int)(w:World)(hc:w.cell? ⟨ga,0,none⟩=some (.slice (some ⟨gn,off,none⟩) n cap))(h1:1<=x)(h2:x<=n)(Qr:n<=cap)(hm:cap<=maxLen):
  Calls Proofs.Tryz.prog 24 #[.pointer (some ⟨ga,0,none⟩),.int .i64 x] w λe w'=>e= .returned (.pointer (some ⟨gn,off+(x.toNat-1)*13,none⟩))/\w=w':=by
 have hb:maxLen<=9223372036854775807:=AA;have hw:wrap64 (x-1)=x-1:=Go.IntWalk.wrap64_in _ ⟨Ab,Ab⟩;go_enter Proofs.Tryz.func24,Proofs.Tryz.ntmps24
 go_wp2
 all_goals refine bodyPost_ret (results_tmp rfl _ _ _) rfl ?_
 all_goals exact⟨rfl,rfl⟩
def aIk(ga:Nat)(x:Int)(w:World):
  Calls Proofs.Tryz.prog 184 #[.pointer (some ⟨ga,0,none⟩),.int .i64 x,.bool true] w λe w'=>e= .returned (.func (.func 236) #[] #[.pointer (some ⟨w.heap.size+1,0,none⟩),.pointer (some ⟨w.heap.size,0,none⟩),.pointer (some ⟨w.heap.size+1+1,0,none⟩)])/\
   w'=((w.alloc (.cells #[.pointer (some ⟨ga,0,none⟩)] 36)).alloc (.cells #[.int .i64 x] 3)).alloc (.cells #[.bool true] 4):=by
 have a:∀(fn:Fn) (first cap:Array Value) (w:World),(Instr.makeFunc fn first cap).run Proofs.Tryz.prog w= .ok (.func fn first cap) w:=λ_ _ _ _=>rfl;go_enter Proofs.Tryz.func184,Proofs.Tryz.ntmps184
 go_wp2
 go_ret
 exact⟨rfl,rfl⟩
def sD{cs:List Aa}{off n:Nat}{up:Int}{k:Nat}{b:Bool}(h:MF cs off n up k 0=some b):b=false:=by cases k<;>simp[MF] at h<;>exact h
def sE{cs:List Aa}{off n:Nat}{up x:Int}{k:Nat}{b:Bool}(h:MF cs off n up k x=some b)(hx:x≠0):∃k',k=k'+1/\
  ((x=up/\b=true)\/(x≠up/\1<=x/\x<=n/\∃p q,Hd cs off x 1=some p/\Hd cs off x 12=some q/\MF cs off n up k' (if p=0 then q else p)=some b)):=by
 cases k with
 |zero=>
  rw[MF] at h;. cases h
  .exact λe=>hx e
 |succ k=>
  refine⟨k,rfl,?_⟩;rw[MF] at h
  .split at h;.rename_i e;cases h;exact .inl ⟨e,rfl⟩
   .rename_i e;split at h
    .rename_i hr;split at h;.rename_i p q c a;exact .inr ⟨e,hr.1,hr.2,p,q,c,a,h⟩
     .cases h
    .cases h
  .exact λe=>hx e
structure m0(Ba Bo ga gn off n cap:Nat)(cs:List Aa)(W:World):Prop where
 a:W.cell? ⟨Ba,0,none⟩=some (.pointer (some ⟨ga,0,none⟩))
 o:W.cell? ⟨Bo,0,none⟩=some (.bool true)
 c:W.cell? ⟨ga,0,none⟩=some (.slice (some ⟨gn,off,none⟩) n cap)
 x:∀(h:Int) (k:Nat) (v:Int),1<=h->h<=n->(k=1\/k=12)->Hd cs off h k=some v->W.cell? ⟨gn,off+(h.toNat-1)*13+k,none⟩=some (.int .i64 v)
def m0.O6{Ba Bo ga gn off n cap:Nat}{cs:List Aa}{A B:World}(h:m0 Ba Bo ga gn off n cap cs A)(hk:∀b,b=Ba\/b=Bo\/b=ga\/b=gn->B.heap[b]?=A.heap[b]?):m0 Ba Bo ga gn off n cap cs B:=
 ⟨by rw[CQ (hk _ AB)];exact h.a,by rw[CQ (hk _ AB)];exact h.o,by rw[CQ (hk _ AB)];exact h.c,
  λx k v h1 h2 h3 d=>by rw[CQ (hk _ AB)];exact h.x x k v h1 h2 h3 d⟩
def xS{Ba Bo ga gn off n cap a:Nat}{cs:List Aa}{A:World}{u:Value}{J:World->Prop}(c:∀A B row,J A->A.grownBy B row->(∀r,row=some r->r=a)->J B)
  (hd:∀b,b=Ba\/b=Bo\/b=ga\/b=gn->b≠a) (hs:m0 Ba Bo ga gn off n cap cs A) (hc:A.cell? ⟨a,0,none⟩=some u) (hf:A.frozen? ⟨a,0,none⟩=false) (hj:J A) (v:Value):
  m0 Ba Bo ga gn off n cap cs (A.setCell ⟨a,0,none⟩ v)/\(A.setCell ⟨a,0,none⟩ v).cell? ⟨a,0,none⟩=some v/\(A.setCell ⟨a,0,none⟩ v).frozen? ⟨a,0,none⟩=false/\J (A.setCell ⟨a,0,none⟩ v):=
 ⟨hs.O6 λb hb=>Below.heap_setCell _ _ _ b (hd b hb),World.cell?_setCell_same _ _ _ hc,by rw[World.frozen?_setCell];exact hf,c _ _ _ hj (grownBy_setCell' A a v) λr e=>by cases e;rfl⟩
def aIl(m l d Ba Bo n₁ ga gn off n cap:Nat)(cs:List Aa)(up:Int)(J F:World->Prop)
  (D:∀A B row,J A->A.grownBy B row->(∀r,row=some r->r=d)->J B)
  (M:∀x W,J W->YieldAt Fence.wide (m-1) Proofs.Tryz.prog l #[.int .i64 x] W λe W'=>(e= .returned (.bool true)/\J W'/\Below n₁ W W'/\x≠up)\/(e= .returned (.bool false)/\F W'/\x=up))
  (hd:∀b,b=Ba\/b=Bo\/b=ga\/b=gn->b<n₁/\b≠d) (j:d<n₁) (Qr:n<=cap) (hm:cap<=maxLen)
  (W:World) (s:Int) (hs:m0 Ba Bo ga gn off n cap cs W) (u:W.cell? ⟨d,0,none⟩=some (.int .i64 s)) (hf:W.frozen? ⟨d,0,none⟩=false)
  (fuel:Nat) (b:Bool) (hcl:MF cs off n up fuel s=some b) (h0:J W):
  CallsIn Fence.wide m Proofs.Tryz.prog 236 #[.func (.yield l) #[] #[],.pointer (some ⟨d,0,none⟩),.pointer (some ⟨Ba,0,none⟩),.pointer (some ⟨Bo,0,none⟩)] W λe W'=>(∃v,e= .returned v)/\((b=false/\J W')\/(b=true/\F W')):=by
 refine callsIn_of_wp Proofs.Tryz.func236 rfl trivial ?_ rfl;simp only[Proofs.Tryz.ntmps236,B5,AK,AW,Nat.reduceAdd,Nat.reduceSub,KX,KY,Nt,LH,BA,B8];gi_wp2
 gi_loopg [] fuel (λk wr=>∃x,MF cs off n up k x=some b/\m0 Ba Bo ga gn off n cap cs wr/\wr.cell? ⟨d,0,none⟩=some (.int .i64 x)/\wr.frozen? ⟨d,0,none⟩=false/\J wr)
 case atStart=>exact⟨s,hcl,hs,u,hf,h0⟩
 case round=>
  obtain⟨x,hcl,hs,u,hf,hj⟩:=hrel;by_cases hx:x=0
  .subst hx;have:=sD hcl;subst this;gi_wp2
   refine⟨nofun,?_⟩;gi_wp2
   go_end0
   exact⟨⟨_,rfl⟩,hj⟩
  .obtain⟨k',rfl,Jy⟩:=sE hcl hx;have hne:(x != 0)=true:=by simp[hx]
   obtain⟨fn,tmps,assign,body,hy,hR⟩:=M x wr hj;gi_wp2
   refine⟨nofun,?_⟩;refine hR.mono ?_;rintro e W3 (⟨rfl,y,qJ,g⟩|⟨rfl,i,g⟩)
   .rcases Jy with⟨rfl,_⟩|⟨_,h1,h2,p,q,O,N,aDr⟩
    .exact absurd rfl g
    have f:=hs.O6 λb hb=>qJ.block b (hd b hb).1;have t:W3.cell? ⟨d,0,none⟩=some (.int .i64 x):=by rw[CQ (qJ.block d j)];exact u
    have w:W3.frozen? ⟨d,0,none⟩=false:=by rw[<-hf];simp only[World.frozen?,qJ.block d j]
    have hp:=f.x x 1 p h1 h2 (.inl rfl) O;have hq:=f.x x 12 q h1 h2 (.inr rfl) N;have Q:=f.a;have P:=f.o;have I:¬Bo=d:=(hd Bo AB).2;have H:¬gn=d:=(hd gn AB).2;gi_wp2
    refine⟨trivial,nofun,(callsIn_wide.2 (aIj ga gn off n cap x _ f.c h1 h2 Qr hm)).mono ?_⟩;rintro e w' ⟨rfl,rfl⟩;obtain⟨z,E,z4,C⟩:=xS D (λb hb=>(hd b hb).2) f t w y (.int .i64 p);by_cases h:p=0
    .subst h;obtain⟨G,R,z5,K⟩:=xS D (λb hb=>(hd b hb).2) z E z4 C (.int .i64 q);gi_wp2
     gi_roundg k'
     case measure=>omega
     case rel=>exact⟨q,aDr,G,R,z5,K⟩
    .have L:(p==0)=false:=by simp[h]
     gi_wp2
     gi_roundg k'
     case measure=>omega
     case rel=>exact⟨p,by rw[Ac h] at aDr;exact aDr,z,E,z4,C⟩
   .rcases Jy with⟨_,rfl⟩|⟨aML,_⟩
    .gi_wp2
     go_end0
     exact⟨⟨_,rfl⟩,i⟩
    .exact absurd g aML
def aDt(n₁:Nat)(up:Int)(I a:World->Prop)(x:Int)(W:World):Exit->Act->World->Prop
 | .normal,_,W'=>KeepsOthers W W'/\Below n₁ W W'/\I W'/\x≠up
 | .ret,_,W'=>KeepsOthers W W'/\a W'/\x=up
 | .exit _,_,_=>False
 | .goto _,_,_=>False
 | .panic _,_,_=>False
 | .outgrown,_,_=>False
def fN{P:Program}{n gf:Nat}{lb:Array Value}{g:Operand}{ps:Array Tmp}{assign body:Code}{Q:Exit->Act->World->Prop}{a:Act}{w:World}(i:Nat)(b:Bool)(up:Int)
  (hg:a.eval g= .func (.func gf) #[] lb) (y:∀args w,(callFunc gf args).run P w= .ok (.enter gf args) w) (u:i<w.heap.size)
  (aDu:∀(l:Nat) (J q:World->Prop) (W:World),Below w.heap.size w W->(∀A B row,J A->A.grownBy B row->(∀r,row=some r->r=i)->J B)->
   (∀x W1,J W1->YieldAt Fence.wide (n-1 -1) P l #[.int .i64 x] W1 λe W'=>(e= .returned (.bool true)/\J W'/\Below w.heap.size W1 W'/\x≠up)\/(e= .returned (.bool false)/\q W'/\x=up))->J W->
   CallsIn Fence.wide (n-1) P gf (#[.func (.yield l) #[] #[]]++lb) W λe W'=>(∃v,e= .returned v)/\((b=false/\J W')\/(b=true/\q W')))
  (ś:ps.size=1) (I h:World->Prop) (hI:∀A B row,I A->A.grownBy B row->(∀r,row=some r->r=i\/w.heap.size<=r)->I B)
  (hIx:∀A B row,h A->A.grownBy B row->(∀r,row=some r->r=i\/w.heap.size<=r)->h B) (h0:I w) (a₁:Int->Act)
  (hassign:∀(l:Nat) (x:Int) (W:World) (K:Act->World->Prop),K (a₁ x) W->
   assign.wpIn (Fence.wide.inRound l) (n-1 -1) P (Exit.then K (λ_ _ _=>False)) {tmps:=(ps.zip #[.int .i64 x]).foldl (λt (p,v)=>t.setIfInBounds p v) a.tmps,defers:=[]} W)
  (X6:∀(l:Nat) (x:Int) (W:World),I W->body.wpIn (Fence.wide.inRound l) (n-1 -1) P (aDt w.heap.size up I h x W) (a₁ x) W)
  (yu:∀(D:Nat) (W:World),b=false->I W->W.heap[D]?=some (.deferred (some []))->w.heap.size<=D->Q .normal {a with defers:={target:= .collected D,args:=#[]}::a.defers} W)
  (yv:∀(D:Nat) (W:World),b=true->h W->W.heap[D]?=some (.deferred (some []))->w.heap.size<=D->Code.ret.wpIn Fence.wide n P Q {a with defers:={target:= .collected D,args:=#[]}::a.defers} W):
  (Code.rangeFunc g ps assign body).wpIn Fence.wide n P Q a w:=by
 refine wpIn_rangeFunc ?_;intro fn xD;have hro:Fence.wide.round=none:=rfl;rw[hro];obtain⟨rec,Wh⟩:∃rec:LoopState->Option Code->Loop,rec=λst s=>{state:=st,pending:=s,fn,tmps:=a.tmps,params:=ps,assign,body,defers:=w.heap.size}:=⟨_,rfl⟩;obtain⟨W1,c⟩:∃W1,(w.alloc (.deferred (some []))).alloc (.loop (rec .ready none))=W1:=⟨_,rfl⟩;have j:W1.heap[w.heap.size+1]?=some (.loop (rec .ready none)):=by rw[<-c];have:=World.alloc_heap_new (w.alloc (.deferred (some []))) (.loop (rec .ready none));rwa [World.size_alloc] at this
 have k:W1.heap[w.heap.size]?=some (.deferred (some [])):=by rw[<-c];exact(Below.heap_alloc _ _ _ AB).trans (World.alloc_heap_new w _)
 have m:I W1:=by rw[<-c];exact hI _ _ none (hI _ _ none h0 (World.grownBy_alloc _ _ none) nofun) (World.grownBy_alloc _ _ none) nofun
 have Qx:Below w.heap.size w W1:=by rw[<-c];exact(((Below.refl _ w).alloc (Ad _) _).alloc AB _)
 refine⟨w.heap.size+1,[{target:= .collected w.heap.size,args:=#[]}],W1,{target:= .fn (.func gf) lb,args:=#[.func (.yield (w.heap.size+1)) #[] #[]]},W1,gf,
  #[.func (.yield (w.heap.size+1)) #[] #[]]++lb,W1,?_,?_,?_,?_,nofun,?_⟩
 .rw[<-c,Wh];exact run_enterLoop_outer _ _ _ _ _
 .simp only[resolve,hg];simp[go_sem]
 .intro f' ye;trivial
 .simp[invoke,go_sem,y]
 .refine(aDu (w.heap.size+1)
   (λW=>I W/\W.heap[w.heap.size+1]?=some (.loop (rec .ready none))/\W.heap[w.heap.size]?=some (.deferred (some [])))
   (λW=>h W/\W.heap[w.heap.size+1]?=some (.loop (rec .done (some .ret)))/\W.heap[w.heap.size]?=some (.deferred (some [])))
   W1 Qx
   (λA B row hs hg' hr=>⟨hI A B row hs.1 hg' (λr e=> .inl (hr r e)),(hg'.block _ (AQ.1 hs.2.1).1 (λe=>by have:=hr _ e.symm;omega)).trans hs.2.1,
    (hg'.block _ (AQ.1 hs.2.2).1 (λe=>by have:=hr _ e.symm;omega)).trans hs.2.2⟩)
   ?_ ⟨m,j,k⟩).mono ?_
  .rintro x W ⟨hi,hl,hk⟩;have hlt:w.heap.size+1<W.heap.size:=(AQ.1 hl).1;have hy:=run_yield (P:=P) (args:=#[.int .i64 x]) hl (by rw[Wh];exact ś.symm);rw[Wh] at hy;refine⟨fn,_,assign,body,hy,roundIn_of_wpIn xD (hassign _ x W _ ⟨_,run_beginRound hl (by rw[Wh]),?_⟩)⟩;have sB:(W.putObj (w.heap.size+1) (.loop {rec .ready none with state:= .busy})).heap[w.heap.size+1]?=some (.loop {rec .ready none with state:= .busy}):=World.putObj_heap_same hlt;have Um:(W.putObj (w.heap.size+1) (.loop {rec .ready none with state:= .busy})).heap[w.heap.size]?=some (.deferred (some [])):=(World.putObj_heap_other Ab).trans hk;have yc:Below w.heap.size W (W.putObj (w.heap.size+1) (.loop {rec .ready none with state:= .busy})):=belowK_b (Ad _) W _ _ _ Ab hl rfl rfl;refine wpIn_mono (X6 _ x _ (hI _ _ _ hi (grownBy_putObj' W _ _) (λr e=> .inr (by cases e;omega)))) ?_;have Jz:∀(jump:Option Code) (W3:World),KeepsOthers (W.putObj (w.heap.size+1) (.loop {rec .ready none with state:= .busy})) W3->
     (Instr.endRound (w.heap.size+1) jump).run P W3= .ok (.bool jump.isNone) (W3.putObj (w.heap.size+1) (.loop (rec (if jump.isNone then .ready else .done) jump)))/\
     W3.heap[w.heap.size+1]?=some (.loop {rec .ready none with state:= .busy})/\
     (W3.putObj (w.heap.size+1) (.loop (rec (if jump.isNone then .ready else .done) jump))).heap[w.heap.size+1]?=some (.loop (rec (if jump.isNone then .ready else .done) jump))/\
     (W3.putObj (w.heap.size+1) (.loop (rec (if jump.isNone then .ready else .done) jump))).heap[w.heap.size]?=some (.deferred (some [])):=λjump W3 qJ=>by
    have um:=qJ.same _ _ sB rfl;have:=run_endRound (P:=P) jump um;rw[Wh] at this⊢;exact⟨this,by rw[Wh] at um;exact um,World.putObj_heap_same (AQ.1 um).1,(World.putObj_heap_other Ab).trans (qJ.same _ _ Um rfl)⟩
   rintro e a3 W3 hp;cases e with
   |normal=>obtain⟨qJ,aMN,f,hne⟩:=hp;obtain⟨hr,um,d,ŭ⟩:=Jz none W3 qJ;exact⟨_,_,hr,.inl ⟨rfl,⟨hI _ _ _ f (grownBy_putObj' W3 _ _) (λr e=> .inr (by cases e;omega)),d,ŭ⟩,(yc.trans aMN).trans (belowK_b (Ad _) W3 _ _ _ Ab um rfl rfl),hne⟩⟩
   |ret=>obtain⟨qJ,f,he⟩:=hp;obtain⟨hr,um,d,ŭ⟩:=Jz (some .ret) W3 qJ;exact⟨_,_,hr,.inr ⟨rfl,⟨hIx _ _ _ f (grownBy_putObj' W3 _ _) (λr e=> .inr (by cases e;omega)),d,ŭ⟩,he⟩⟩
   |exit id=>exact hp.elim
   |goto t=>exact hp.elim
   |panic z=>exact hp.elim
   |outgrown=>exact hp.elim
  .rintro e o ⟨⟨v,rfl⟩,⟨hb,hi,hl,hk⟩|⟨hb,hi,hl,hk⟩⟩;.exact⟨none,_,by have:=run_endLoop (P:=P) hl (by rw[Wh];simp);rw[Wh] at this;exact this,yu _ _ hb (hI _ _ _ hi (grownBy_putObj' o _ _) (λr e=> .inr (by cases e;omega))) ((World.putObj_heap_other Ab).trans hk) (Ad _)⟩
   .exact⟨some .ret,_,by have:=run_endLoop (P:=P) hl (by rw[Wh];simp);rw[Wh] at this;exact this,yv _ _ hb (hIx _ _ _ hi (grownBy_putObj' o _ _) (λr e=> .inr (by cases e;omega))) ((World.putObj_heap_other Ab).trans hk) (Ad _)⟩
def CT{W:World}{k j:Nat}{v:Value}(o:Obj)(h:W.cell? ⟨k,j,none⟩=some v):(W.alloc o).cell? ⟨k,j,none⟩=some v:=by rw[World.cell?_alloc_past _ _ _ (DU h)];exact h
def LR{W:World}{k j:Nat}{v:Value}(o:Obj)(h:W.cell? ⟨k,j,none⟩=some v):(W.alloc o).frozen? ⟨k,j,none⟩=W.frozen? ⟨k,j,none⟩:=
 World.frozen?_alloc_past _ _ _ (DU h)
def MT(W:World)(v:Value)(t:TypeId):(W.alloc (.cells #[v] t)).cell? ⟨W.heap.size,0,none⟩=some v/\(W.alloc (.cells #[v] t)).frozen? ⟨W.heap.size,0,none⟩=false:=by
 have h:(W.alloc (.cells #[v] t)).heap[W.heap.size]?=some (.cells #[v] t (0,0)):=World.alloc_heap_new W _;constructor;.simp only[World.cell?,h];rfl
 .simp only[World.frozen?,h];rfl
def Yb{A B:World}{row:Option Nat}{k:Nat}{v:Value}(h:A.cell? ⟨k,0,none⟩=some v)(hg:A.grownBy B row)(hr:∀r,row=some r->k≠r):
  B.cell? ⟨k,0,none⟩=some v/\B.frozen? ⟨k,0,none⟩=A.frozen? ⟨k,0,none⟩:=by
 have hb:B.heap[k]?=A.heap[k]?:=hg.block k (DU h) (λe=>hr k e.symm rfl);exact⟨by rw[CQ hb];exact h,by simp only[World.frozen?,hb]⟩
def aDv(ga gn off n cap:Nat)(cs:List Aa)(up x:Int)(w:World)(m:ga<w.heap.size)(C:gn<w.heap.size)(Qr:n<=cap)(hm:cap<=maxLen)
  (hc:w.cell? ⟨ga,0,none⟩=some (.slice (some ⟨gn,off,none⟩) n cap))
  (hx:∀(h:Int) (k:Nat) (v:Int),1<=h->h<=n->(k=1\/k=12)->Hd cs off h k=some v->w.cell? ⟨gn,off+(h.toNat-1)*13+k,none⟩=some (.int .i64 v))
  (b:Bool) (hcl:MF cs off n up (n+1) x=some b) (eX:1<=up) (Tt:up<=n) (UE:1<=x) (ZI:x<=n):
  Calls Proofs.Tryz.prog 109 #[.pointer (some ⟨ga,0,none⟩),.int .i64 up,.int .i64 x] w λe w'=>e= .returned (.bool b)/\Below w.heap.size w w':=by
 refine(callsIn_wide (n:=5)).1 ?_;refine callsIn_of_wp_marks Proofs.Tryz.func109 rfl trivial ?_;simp only[Proofs.Tryz.ntmps109,B5,AK,AW,Nat.reduceAdd,Nat.reduceSub,KX,KY,Nt,LH,BA,B8];have q:((w.alloc (.cells #[.int .i64 up] 3)).alloc (.cells #[.bool false] 4)).cell? ⟨ga,0,none⟩=some (.slice (some ⟨gn,off,none⟩) n cap):=by rw[World.cell?_alloc_past _ _ _ Et,World.cell?_alloc_past _ _ _ m];exact hc
 have u:=MT w (.int .i64 up) 3;have c:=MT (w.alloc (.cells #[.int .i64 up] 3)) (.bool false) 4;have t:=MT ((w.alloc (.cells #[.int .i64 up] 3)).alloc (.cells #[.bool false] 4)) (.pointer (some ⟨ga,0,none⟩)) 36;have g:=MT (((w.alloc (.cells #[.int .i64 up] 3)).alloc (.cells #[.bool false] 4)).alloc (.cells #[.pointer (some ⟨ga,0,none⟩)] 36)) (.int .i64 x) 3;have s:=MT ((((w.alloc (.cells #[.int .i64 up] 3)).alloc (.cells #[.bool false] 4)).alloc (.cells #[.pointer (some ⟨ga,0,none⟩)] 36)).alloc (.cells #[.int .i64 x] 3)) (.bool true) 4;simp only[World.size_alloc] at c t g s;have H:decide (1<=up/\up<=n)=true:=Ak ⟨eX,Tt⟩;have G:decide (1<=x/\x<=n)=true:=Ak ⟨UE,ZI⟩;gi_wp2
 refine⟨trivial,(callsIn_wide.2 (cA ga _ n cap up _ q)).mono ?_⟩;rintro e w' ⟨rfl,rfl⟩;rw[H];gi_wp2
 refine⟨trivial,(callsIn_wide.2 (cA ga _ n cap x _ q)).mono ?_⟩;rintro e w' ⟨rfl,rfl⟩;rw[G];gi_wp2
 refine⟨trivial,(callsIn_wide.2 (aIk ga x _)).mono ?_⟩;rintro e w' ⟨rfl,rfl⟩;gi_wp2
 refine fN (gf:=236) (lb:=#[.pointer (some ⟨w.heap.size+1+1+1,0,none⟩),.pointer (some ⟨w.heap.size+1+1,0,none⟩),.pointer (some ⟨w.heap.size+1+1+1+1,0,none⟩)]) (w.heap.size+1+1+1) b up rfl (Go.Proofs.enters_of Proofs.Tryz.func236 AP rfl) AB
  ?aDu rfl
  (λW=>Below w.heap.size w W/\W.cell? ⟨w.heap.size,0,none⟩=some (.int .i64 up)/\W.cell? ⟨w.heap.size+1,0,none⟩=some (.bool false)/\W.frozen? ⟨w.heap.size+1,0,none⟩=false)
  (λW=>Below w.heap.size w W/\W.cell? ⟨w.heap.size+1,0,none⟩=some (.bool true)) ?hI ?hIx ?h0
  (λy=>{tmps:=#[.pointer (some ⟨ga,0,none⟩),.int .i64 up,.int .i64 x,undef,.pointer (some ⟨w.heap.size,0,none⟩),undef,.pointer (some ⟨w.heap.size+1,0,none⟩),.int .i64 y,.pointer (some ⟨ga,0,none⟩),.int .i64 up,.bool true,.bool false,.bool false,.pointer (some ⟨ga,0,none⟩),.int .i64 x,.bool true,.bool false,.bool false,.pointer (some ⟨ga,0,none⟩),.int .i64 x,.func (.func 236) #[] #[.pointer (some ⟨w.heap.size+1+1+1,0,none⟩),.pointer (some ⟨w.heap.size+1+1,0,none⟩),.pointer (some ⟨w.heap.size+1+1+1+1,0,none⟩)],.int .i64 y,undef,undef,undef],defers:=[]})
  ?hassign ?X6 ?yu ?yv
 case hI=>rintro A B row ⟨h1,h2,h3,p⟩ hg hr;have Kw:=DU h3;have z:=Yb h2 hg (λr e=>by rcases hr r e with rfl|h<;>simp at* <;>omega);have i:=Yb h3 hg (λr e=>by rcases hr r e with rfl|h<;>simp at* <;>omega);exact⟨h1.grown hg Ab (λk e=>by rcases hr k e with rfl|h<;>simp at* <;>omega),z.1,i.1,i.2.trans p⟩
 case hIx=>rintro A B row ⟨h1,h3⟩ hg hr;have Kw:=DU h3;have i:=Yb h3 hg (λr e=>by rcases hr r e with rfl|h<;>simp at* <;>omega);exact⟨h1.grown hg Ab (λk e=>by rcases hr k e with rfl|h<;>simp at* <;>omega),i.1⟩
 case h0=>
  refine⟨(((((Below.refl _ w).alloc (Ad _) _).alloc AB _).alloc Et _).alloc Et _).alloc Et _,?_,?_,?_⟩;.exact CT _ (CT _ (CT _ (CT _ u.1)))
  .exact CT _ (CT _ (CT _ c.1))
  .rw[LR _ (CT _ (CT _ c.1)),LR _ (CT _ c.1),LR _ c.1];exact c.2
 case aDu=>
  intro l J I W hW F E hj;have kk:∀{k j:Nat} {v:Value},(((((w.alloc (.cells #[.int .i64 up] 3)).alloc (.cells #[.bool false] 4)).alloc (.cells #[.pointer (some ⟨ga,0,none⟩)] 36)).alloc (.cells #[.int .i64 x] 3)).alloc (.cells #[.bool true] 4)).cell? ⟨k,j,none⟩=some v->W.cell? ⟨k,j,none⟩=some v:=
   λ{k j v} h=>by rw[CQ (hW.block k (DU h))];exact h
  have hs:m0 (w.heap.size+1+1) (w.heap.size+1+1+1+1) ga gn off n cap cs W:=
   ⟨kk (CT _ (CT _ t.1)),kk s.1,kk (CT _ (CT _ (CT _ q))),λh k v h1 h2 h3 p=>kk (CT _ (CT _ (CT _ (CT _ (CT _ (hx h k v h1 h2 h3 p))))))⟩
  refine aIl 4 l (w.heap.size+1+1+1) (w.heap.size+1+1) (w.heap.size+1+1+1+1) _ ga gn off n cap cs up J I F E ?_ AB Qr hm W x hs (kk (CT _ g.1)) ?_ (n+1) b hcl hj;.rintro b (rfl|rfl|rfl|rfl)<;>simp<;>omega
  .have:W.frozen? ⟨w.heap.size+1+1+1,0,none⟩=_:=World.frozen?_of_block (hW.block (w.heap.size+1+1+1) AB);rw[this,LR _ g.1];exact g.2
 case hassign=>
  intro l y W K d;have aMP:=Oper.semAt_some l;gi_wp2
  exact d
 case X6=>
  rintro l y W ⟨hb,ZU,Mn,ub⟩;have aMP:=Oper.semAt_some l;gi_wp2
  .rename_i he;obtain rfl:y=up:=eq_of_beq he;exact⟨KeepsOthers.setCell _ _ _,⟨hb.setCell (FV _) _,World.cell?_setCell_same _ _ _ Mn⟩,rfl⟩
  .rename_i he;exact⟨KeepsOthers.refl _,Below.refl _ _,⟨hb,ZU,Mn,ub⟩,λe=>by subst e;simp at he⟩
 case yu=>
  rintro D W rfl ⟨hb,ZU,Mn,ub⟩ d o;gi_wp2
  have f:=(KeepsOthers.setCell W ⟨w.heap.size+1,0,none⟩ (.bool false)).same D _ d rfl;have a:=cell_kept (World.cell?_setCell_same W ⟨w.heap.size+1,0,none⟩ (.bool false) Mn) (grownBy_putObj' _ D (.deferred none)) (λr e=>by cases e;exact⟨_,f,rfl⟩);refine⟨AB,.inl ⟨_,_,rfl,run_takeDeferred f,?_⟩⟩;refine⟨.bool false,?_,rfl,(hb.setCell (FV _) _).grown (grownBy_putObj' _ D _) (by have:=DU Mn;simp;omega) (λk e=>by cases e;simp at o;omega)⟩;simp[results,Proofs.Tryz.f109,go_sem,a]
 case yv=>
  rintro D W rfl ⟨hb,Mn⟩ d o;gi_wp2
  have a:=cell_kept Mn (grownBy_putObj' _ D (.deferred none)) (λr e=>by cases e;exact⟨_,d,rfl⟩);refine⟨AB,.inl ⟨_,_,rfl,run_takeDeferred d,?_⟩⟩;refine⟨.bool true,?_,rfl,hb.grown (grownBy_putObj' _ D _) (by have:=DU Mn;omega) (λk e=>by cases e;simp at o;omega)⟩;simp[results,Proofs.Tryz.f109,go_sem,a]
def Yc(ga:Nat)(p:Option Addr)(n cap:Nat)(up x:Int)(w:World)(hc:w.cell? ⟨ga,0,none⟩=some (.slice p n cap))(ho:¬(1<=up/\up<=n/\1<=x/\x<=n)):
  Calls Proofs.Tryz.prog 109 #[.pointer (some ⟨ga,0,none⟩),.int .i64 up,.int .i64 x] w λe w'=>e= .returned (.bool false)/\Below w.heap.size w w':=by
 have c:((w.alloc (.cells #[.int .i64 up] 3)).alloc (.cells #[.bool false] 4)).cell? ⟨ga,0,none⟩=some (.slice p n cap):=CT _ (CT _ hc);have a:=MT (w.alloc (.cells #[.int .i64 up] 3)) (.bool false) 4;simp only[World.size_alloc] at a;have hb:Below w.heap.size w ((w.alloc (.cells #[.int .i64 up] 3)).alloc (.cells #[.bool false] 4)):=((Below.refl _ w).alloc (Ad _) _).alloc AB _;refine(callsIn_wide (n:=5)).1 ?_;refine callsIn_of_wp Proofs.Tryz.func109 rfl trivial ?_ rfl;simp only[Proofs.Tryz.ntmps109,B5,AK,AW,Nat.reduceAdd,Nat.reduceSub,KX,KY,Nt,LH,BA,B8];by_cases h1:1<=up/\up<=n
 .have b:decide (1<=up/\up<=n)=true:=Ak h1;have d:decide (1<=x/\x<=n)=false:=Ap λh2=>ho ⟨h1.1,h1.2,h2.1,h2.2⟩;gi_wp2
  refine⟨trivial,(callsIn_wide.2 (cA ga _ n cap up _ c)).mono ?_⟩;rintro e w' ⟨rfl,rfl⟩;rw[b];gi_wp2
  refine⟨trivial,(callsIn_wide.2 (cA ga _ n cap x _ c)).mono ?_⟩;rintro e w' ⟨rfl,rfl⟩;rw[d];gi_wp2
  refine bodyPost_ret (v:= .bool false) ?_ rfl ⟨rfl,hb⟩;simp[results,Proofs.Tryz.f109,go_sem,a.1]
 .have b:decide (1<=up/\up<=n)=false:=Ap h1;gi_wp2
  refine⟨trivial,(callsIn_wide.2 (cA ga _ n cap up _ c)).mono ?_⟩;rintro e w' ⟨rfl,rfl⟩;rw[b];gi_wp2
  refine⟨trivial,?_⟩;gi_wp2
  refine bodyPost_ret (v:= .bool false) ?_ rfl ⟨rfl,hb⟩;simp[results,Proofs.Tryz.f109,go_sem,a.1]
section
variable{h:Ai}
def fO{cs:List Aa}{off:Nat}{x:Int}{k:Nat}{v:Int}(e:Hd cs off x k=some v):cs[off+(x.toNat-1)*13+k]?=some (.int .i64 v):=by
 unfold Hd at e;split at e;.rename_i a;cases e;exact a
 .cases e
def Ů(n:Nat)(args:List Aa)(r:Aa)(h':Ai)(AM:IT.step (Cd cx) (IT.run (Cd cx) n) (Ou args) h=some (.ret,[r],h')):
  (∃fn c,cx.P.funcs[Fe 109]?=some fn/\(fn.name== "runtime.NumGoroutine")=false/\fn.body=some c)/\
  ∀(U:Gh) (w:World) (cargs:Array Value),Ic U h w->(∀g cs,cx.HB g=some cs->C2 U cs g 0)->A8 U args cargs.toList->
   Calls cx.P (Fe 109) cargs w λe w'=>match e with
    | .returned v=>∃d,Ic d h' w'/\M1 U w d w'/\BP d r v/\(cx.KC 109=true->∃s c,JO d w.heap.size w' s c v r)
    |_=>False:=by
 refine⟨⟨_,_,Proofs.Tryz.func109,rfl,rfl⟩,λU w cargs hi hg ha=>?_⟩;simp only[Ou,IT.step,Eu] at AM;cases e0:Ot h args with
 |none=>simp[e0] at AM
 |some H=>
 obtain⟨h1,J⟩:=H;simp only[e0] at AM;cases AM;have Jz:∀(b:Bool) (cs:Array Value),h'=h->r= .bool b->Calls Proofs.Tryz.prog 109 cs w (λe w'=>e= .returned (.bool b)/\Below w.heap.size w w')->
   Calls cx.P (Fe 109) cs w λe w'=>match e with
    | .returned v=>∃d,Ic d h' w'/\M1 U w d w'/\BP d r v/\(cx.KC 109=true->∃s c,JO d w.heap.size w' s c v r)
    |_=>False:=by
  rintro b cs rfl rfl hc;refine hc.mono λe w' he=>?_;obtain⟨rfl,hb⟩:=he;obtain⟨bR,UB⟩:=hi.M7 hb;exact⟨U,bR,UB,rfl,λe=>by cases e⟩
 unfold Ot at e0;split at e0
 .rename_i id up x;obtain⟨v0,us,o,⟨g,hm,rfl⟩,I,q,rfl,rfl,v2,qR,rfl,rfl,hnil⟩:=ha;cases hnil;have a:cargs=#[.pointer (some ⟨g,0,none⟩),.int .i64 up,.int .i64 x]:=by apply HV;simpa using o
  subst a;split at e0;.rename_i l hc;cases e0;obtain⟨_,y,hy,A⟩:=hi.Ts hc hm (j:=0) rfl;cases A;exact Jz false _ rfl rfl (Yc g none 0 0 up x w hy Ab)
  .rename_i F off len l hc;split at e0
   .rename_i cs hcs;split at e0
    .rename_i hl;obtain⟨_,y,hy,gn,cap,f,rfl,D,⟨K,C⟩,B⟩:=hi.Ts hc hm (j:=0) rfl;have m:g<w.heap.size:=DU hy;have i:gn<w.heap.size:=by obtain⟨⟨us,e,fr,E,L⟩,_⟩:=hi.sz gn _ B;exact(AQ.1 E).1
     split at e0
     .rename_i hr;cases p:MF cs off len up (len+1) x with
      |none=>simp[p] at e0
      |some b=>simp only[p,BV,BL,Mj] at e0;obtain⟨rfl,rfl⟩:=e0;refine Jz b _ rfl rfl (aDv g gn off len cap cs up x w m i D C hy (λt k v h1 h2 h3 G=>?_) b p hr.1 hr.2.1 hr.2.2.1 hr.2.2.2);obtain⟨_,z,hz,u⟩:=hi.Ts hcs f (fO G);cases u;exact hz
     .rename_i hr;cases e0;exact Jz false _ rfl rfl (Yc g _ len cap up x w hy hr)
    .cases e0
   .cases e0
  .cases e0
 .cases e0
end
def P1{T e:TypeId}{B b:Nat}{bs:List Value}{W W':World}(h:Lib.IsBuilder T e B b bs W)(hb:Below W.heap.size W W'):Lib.IsBuilder T e B b bs W':=by
 have key:∀p,Lib.BuilderAt T e B b p bs W->Lib.BuilderAt T e B b p bs W':=λp ⟨hB,v,a,FX,hne⟩=>by refine⟨hB,v,(hb.block b (AQ.1 a).1).trans a,?_,hne⟩;exact FX.kept (row:=none) ⟨hb.os,hb.tape,hb.output,hb.size,λk hk _=>hb.block k hk⟩ (Classical.em _)
 exact h.imp (key _) (key _)
def Ln(a b:List UInt8):Lib.byteCells (a++b)=Lib.byteCells a++Lib.byteCells b:=by simp[Lib.byteCells]
def byteCells_length(a:List UInt8):(Lib.byteCells a).length=a.length:=by simp[Lib.byteCells]
def sF(d:Nat):Lib.repeatL [32,32] d=List.replicate (2*d) 32:=by
 induction d with
 |zero=>rfl
 |succ d ih=>rw[Lib.repeatL,ih,(Ab:2*(d+1)=2*d+1+1),LG,LG];rfl
def sG:∀a:Aa,a.Nx=true->a.still=true
 | .bool _,_=>rfl
 | .int _ _,_=>rfl
 | .str _,_=>rfl
 |a,h=>by cases a<;>first|rfl|simp[Aa.Nx] at h
def VC:∀l:List Aa,l.all Aa.Nx=true->J8 l=true
 |[],_=>rfl
 |a::l,h=>by simp only[SQ,Bb] at h;simp only[J8,Bb];exact⟨sG a h.1,VC l h.2⟩
section
variable{U:Gh}{h:Ai}{w:World}
def m6(hi:Ic U h w){id g:Nat}{cs:List Aa}(hc:h[id]?=some (.cells cs))(hm:U.mu id=some g):∀(n o:Nat),o+n<=cs.length->NN (CG cs 1 o n)=true->
  (CG cs 1 o n).length=n/\Fb (Gy w) (CG cs 1 o n) 1 g o
 |0,o,_,_=>⟨rfl,trivial⟩
 |n+1,o,hl,hs=>by
  have hlt:o<cs.length:=Ab;have a:(cs.drop o).take 1=[cs[o]]:=by rw[Az hlt];rfl
  have lC:J8 ((cs.drop o).take 1)=true/\NN (CG cs 1 (o+1) n)=true:=by simpa only[CG,NN,Bb] using hs
  obtain⟨p,q⟩:=m6 hi hc hm n (o+1) Ab lC.2;rw[a] at lC;have JM:cs[o].still=true:=by simpa[J8] using lC.1
  obtain⟨u,hu,h1,hr⟩:=Ow hi hc hm (Av hlt);refine⟨by simp[CG,p],?_⟩;simp only[CG,a];exact⟨rfl,⟨⟨u,UD hu h1,BP.mem hi _ _ JM hr⟩,trivial⟩,q⟩
def fP(w:World)(b o:Nat)(Bm:List (List Aa)):Prop:=
 ∃v,w.cell? ⟨b,o,none⟩=some v/\((v= .slice none 0 0/\Bm=[])\/
  (∃a c cap,v= .slice (some ⟨a,c,none⟩) Bm.length cap/\Bm.length<=cap/\cap<=maxLen/\a<w.heap.size/\Fb (Gy w) Bm 1 a c))
def yw(hi:Ic U h w){id g:Nat}(hm:U.mu id=some g){x:Int}{h1:Ai}{r:Aa}(e:nj h [.ptr (some (id,0)),.int .i64 x]=some (h1,r)):
  h1=h/\∃gn off n cap row c Bm,r= .tuple [.B9 row,.int .i64 c,.sl 1 Bm]/\g<w.heap.size/\gn<w.heap.size/\w.cell? ⟨g,0,none⟩=some (.slice (some ⟨gn,off,none⟩) n cap)/\n<=cap/\cap<=maxLen/\
   1<=x/\x<=n/\C2 (Gy w) row gn (off+(x.toNat-1)*13)/\w.cell? ⟨gn,off+(x.toNat-1)*13+11,none⟩=some (.int .i64 c)/\fP w gn (off+(x.toNat-1)*13+2) Bm:=by
 unfold nj at e;split at e
 .rename_i F9 x' K4;cases K4;split at e
  .rename_i nid off n l hc;split at e
   .rename_i cs hcs;split at e
    .rename_i hx;split at e
     .rename_i D C K B A z v t s q lG c b hrow;split at e
      .rename_i JM;simp only[J8,Bb,Jh] at JM;obtain⟨s0,W,V,T,S,R,Q,P,O,F,E⟩:=JM;obtain⟨_,y,hy,gn,cap,f,rfl,N,⟨q2,M⟩,Z⟩:=hi.Ts hc hm (j:=0) rfl;have i:gn<w.heap.size:=by obtain⟨⟨us,e,fr,G,p2⟩,_⟩:=hi.sz gn _ Z;exact(AQ.1 G).1
       have get:∀(j:Nat) (a:Aa),j<13->[D,C,K,B,A,z,v,t,s,q,lG,.int .i64 c,b][j]?=some a->cs[off+(x.toNat-1)*13+j]?=some a:=λj a hj ha=>by rw[<-hrow,CM hj,CF] at ha;exact ha
       have key:∀(j:Nat) (a:Aa),j<13->[D,C,K,B,A,z,v,t,s,q,lG,.int .i64 c,b][j]?=some a->a.still=true->∃u,(Gy w).IQ gn (off+(x.toNat-1)*13+j)=some u/\BP (Gy w) a u:=λj a hj ha hs=>by obtain⟨u,hu,ho,hr⟩:=Ow hi hcs f (get j a hj ha);exact⟨u,UD hu ho,BP.mem hi _ _ hs hr⟩
       have xT:w.cell? ⟨gn,off+(x.toNat-1)*13+11,none⟩=some (.int .i64 c):=by obtain⟨u,hu,_,hr⟩:=Ow hi hcs f (get 11 _ Ab rfl);cases hr;exact hu
       obtain⟨u2,Tt,mF,M5⟩:=Ow hi hcs f (get 2 K Ab rfl);have mk:∀(H:Aa),(∃u,(Gy w).IQ gn (off+(x.toNat-1)*13+2)=some u/\BP (Gy w) H u)->C2 (Gy w) [D,C,H,B,A,z,v,t,s,q,lG,.int .i64 c,b] gn (off+(x.toNat-1)*13):=λH h2=>⟨key 0 D Ab rfl s0,key 1 C Ab rfl W,h2,key 3 B Ab rfl V,key 4 A Ab rfl T,key 5 z Ab rfl S,key 6 v Ab rfl R,key 7 t Ab rfl Q,key 8 s Ab rfl P,key 9 q Ab rfl O,key 10 lG Ab rfl F,key 11 _ Ab rfl rfl,key 12 b Ab rfl E,trivial⟩
       have hg:=DU hy;split at e;.cases e;cases M5;exact⟨rfl,gn,off,n,cap,_,c,[],rfl,hg,i,hy,N,M,hx.1,hx.2.1,mk _ ⟨_,UD Tt mF,rfl⟩,xT,_,Tt,.inl ⟨rfl,rfl⟩⟩
       .rename_i N7 o m;split at e
        .rename_i ks xm;split at e
         .rename_i hk;cases e;obtain⟨p,d,I,rfl,L,⟨r2,Y⟩,X⟩:=M5;obtain⟨k,t2⟩:=m6 hi xm I m o Ab hk.2;have J:p<w.heap.size:=by obtain⟨⟨us,e,fr,G,p2⟩,_⟩:=hi.sz p _ X;exact(AQ.1 G).1
          refine⟨rfl,gn,off,n,cap,_,c,CG ks 1 o m,rfl,hg,i,hy,N,M,hx.1,hx.2.1,mk _ ⟨_,UD Tt mF,⟨p,o,none⟩,d,by rw[k],by rw[k];exact L,.inl rfl,t2⟩,xT,_,Tt,.inr ⟨p,o,d,by rw[k],by rw[k];exact L,Y,J,t2⟩⟩
         .cases e
        .cases e
       .cases e
      .cases e
     .cases e
    .cases e
   .cases e
  .cases e
 .cases e
def ů{n:Nat}(hs:Fk cx (IT.run (Cd cx) n))(hi:Ic U h w)(hg:∀g cs,cx.HB g=some cs->C2 U cs g 0){row:List Aa}{s:Ah}{h1:Ai}(e:IT.run (Cd cx) n (Cd cx 43 [.B9 row]) []=some (.ret,[.str s],h1))
  {W:World} (hb:Below w.heap.size w W) {gn o:Nat} (hr:C2 (Gy w) row gn o):
  Calls Proofs.Tryz.prog 43 #[.pointer (some ⟨gn,o,none⟩)] W λe W'=>e= .returned (.string ⟨⟨s⟩⟩)/\Below W.heap.size W W':=by
 refine((hs.2 43 _ _ _ _ e).2 (Gy W) W #[.pointer (some ⟨gn,o,none⟩)] (yn W) (λg cs a=>C2.mono (mY hb) cs g 0 (C2.mem hi cs g 0 (VC cs (hs.1.1 g cs a)) (hg g cs a)))
  ⟨_,_,rfl,⟨gn,o,rfl,C2.mono (mY hb) row gn o hr⟩,rfl⟩).mono λe W' he=>?_
 cases e with
 |returned v=>obtain⟨b,_,ha,hv,_⟩:=he;cases hv;exact⟨rfl,ha.os,ha.tape,ha.output,ha.size,λk hk=>(ha.O6 k hk (λid=>by simp[Gy])).1⟩
 |_=>exact he.elim
end
def Ű{w:World}{b o:Nat}{Bm:List (List Aa)}(h:fP w b o Bm):∃p cap,w.cell? ⟨b,o,none⟩=some (.slice p Bm.length cap)/\Bm.length<=cap/\cap<=maxLen/\
  ∀(i:Nat) (y:Int),Bm[i]?=some [.int .i64 y]->∃a c,p=some ⟨a,c,none⟩/\a<w.heap.size/\w.cell? ⟨a,c+i,none⟩=some (.int .i64 y):=by
 obtain⟨v,hv,⟨rfl,rfl⟩|⟨a,c,cap,rfl,h1,h2,h3,d⟩⟩:=h;.exact⟨none,0,hv,Ad _,AA,λi y hi=>by simp at hi⟩
 .refine⟨_,cap,hv,h1,h2,λi y hi=>⟨a,c,rfl,h3,?_⟩⟩;obtain⟨_,⟨u,hu,hr⟩,_⟩:=Fb.get d hi;cases hr;have:=hu;simp only[Gy,RK] at this;simpa using this.1
def m7(l:List UInt8):Lib.strCells ⟨l.toArray⟩=Lib.byteCells l:=by simp[Lib.strCells,Lib.byteCells]
def fQ(l:List UInt8):Lib.strCells ⟨⟨l⟩⟩=Lib.byteCells l:=by simp[Lib.strCells,Lib.byteCells]
def sH(i n:Nat)(h:i<n)(hn:n<=9223372036854775807):wrap64 ((i:Int)+1)=((i+1:Nat):Int):=by rw[Go.IntWalk.wrap64_in _ ⟨Ab,Ab⟩];omega
def cB(d:Nat)(h:d<=1000):wrap64 ((d:Int)+1)=((d+1:Nat):Int):=by rw[Go.IntWalk.wrap64_in _ ⟨Ab,Ab⟩];omega
abbrev uo(g:Nat)(w0:World)(x:Int)(d:Nat)(D7 So:Ah):Prop:=
 ∀(B b:Nat) (W:World),w0.heap.size<=B->B<=W.heap.size->Below w0.heap.size w0 W->Lib.IsBuilder 96 5 B b (Lib.byteCells D7) W->
  Calls Proofs.Tryz.prog 36 #[.pointer (some ⟨g,0,none⟩),.pointer (some ⟨b,0,none⟩),.int .i64 x,.int .i64 d] W λe W'=>(∃v,e= .returned v)/\Lib.IsBuilder 96 5 B b (Lib.byteCells So) W'/\Below B W W'
def nv{p:Prop}(h:p):Hid p:=h
def M8{w0 W':World}{k j:Nat}{v:Value}(hb:Below w0.heap.size w0 W')(h:w0.cell? ⟨k,j,none⟩=some v):W'.cell? ⟨k,j,none⟩=some v:=by rw[CQ (hb.block k (DU h))];exact h
def sI:Code->Code
 | .seq _ c=>sI c
 | .block _ c=>c
 |c=>c
noncomputable def yx:Code:=match Proofs.Tryz.f36.body with
 |some c=>sI c
 |none=> .skip
def yy{w0 W W6:World}{g B b d a:Nat}{p:Option Addr}{Bm:List (List Aa)}(hB:w0.heap.size<=B)(h:B<=W.heap.size)(hb:Below w0.heap.size w0 W)(hd:d<=1000)
  (Um:Bm.length<=a) (qJ:a<=maxLen) (ŭ:∀(i:Nat) (y:Int),Bm[i]?=some [.int .i64 y]->∃l ko,p=some ⟨l,ko,none⟩/\l<w0.heap.size/\w0.cell? ⟨l,ko+i,none⟩=some (.int .i64 y))
  (f:Nat->Ah) (hf:∀i,i<Bm.length->∃y,Bm[i]?=some [.int .i64 y]/\uo g w0 y (d+1) (f i) (f (i+1))) (j:Below B W W6) (l6:Lib.IsBuilder 96 5 B b (Lib.byteCells (f 0)) W6)
  (z2 z4 z5 z6 z7 z8 z9 z10 z11 z12 z13 z14 Z z16 Y X V z20 U z22 T S R Q P O N M L K J I H G z37 F E D C A z x w u t z51 s z53 r q o n m:Value):
  yx.wpIn Fence.wide 5 Proofs.Tryz.prog (Exit.inBlock 0<|bodyPost Proofs.Tryz.prog Proofs.Tryz.f36 λe W'=>(∃v,e= .returned v)/\Lib.IsBuilder 96 5 B b (Lib.byteCells (f Bm.length)) W'/\Below B W W')
   {tmps:=#[.pointer (some ⟨g,0,none⟩),.pointer (some ⟨b,0,none⟩),z2,.int .i64 d,z4,z5,z6,z7,z8,z9,z10,z11,z12,z13,z14,Z,z16,Y,X,V,z20,U,z22,T,S,R,Q,P,O,N,M,L,K,J,I,H,G,z37,F,E,D,C,A,z,x,w,.slice p Bm.length a,.int .i64 Bm.length,.int .i64 0,u,t,z51,s,z53,r,q,o,n,m],defers:=[]} W6:=by
 simp only[yx,sI,Proofs.Tryz.f36];gi_loopg [48] Bm.length (λk v wr=>∃i,i<=Bm.length/\k=Bm.length-i/\v= .int .i64 (i:Nat)/\Below B W wr/\Lib.IsBuilder 96 5 B b (Lib.byteCells (f i)) wr)
 case atStart=>exact⟨0,Bp _,rfl,rfl,j,l6⟩
 case round=>
  obtain⟨i,hi,rfl,rfl,bbi,li⟩:=hrel;by_cases hlt:i<Bm.length
  .obtain⟨y,hy,aB2⟩:=hf i hlt;obtain⟨l,ko,rfl,hgk,Ki⟩:=ŭ i y hy;have c:Below w0.heap.size w0 wr:=hb.trans (bbi.mono hB);have ci:=M8 c Ki;have aTy:(i:Int)<(Bm.length:Int):=by exact_mod_cast hlt
   have hwi:=sH i _ hlt (Bv Um qJ);have hwd:=cB d hd;have WH:=aB2 B b _ hB (Bv h bbi.size) c li;clear aB2 hf ŭ Um qJ c li l6 j Ki hy hgk hB h hb;rw[show((d+1:Nat):Int)=(d:Int)+1 from rfl] at WH;gi_wp2
   refine⟨trivial,(callsIn_wide.2 WH).mono ?_⟩;rintro e W7 ⟨⟨v,rfl⟩,l7,b7⟩;gi_wp2
   gi_roundg (Bm.length-(i+1))
   case measure=>exact Nat.sub_lt_sub_left hlt (Uf i)
   case rel=>refine⟨i+1,hlt,rfl,?_,bbi.trans b7,l7⟩;first|rfl|exact B3 (Value.int .i64) hwi
  .obtain rfl:i=Bm.length:=Nat.le_antisymm hi (Nat.le_of_not_lt hlt);gi_wp2
   go_end0
   exact⟨⟨_,rfl⟩,li,bbi⟩
def aDw{w0:World}{g gn off n cap:Nat}{c x:Int}{Bm:List (List Aa)}(U:g<w0.heap.size)(V:gn<w0.heap.size)(hc:w0.cell? ⟨g,0,none⟩=some (.slice (some ⟨gn,off,none⟩) n cap))(Qr:n<=cap)(hm:cap<=maxLen)
  (UE:1<=x) (ZI:x<=n) (RI:w0.cell? ⟨gn,off+(x.toNat-1)*13+11,none⟩=some (.int .i64 c)) (hk:fP w0 gn (off+(x.toNat-1)*13+2) Bm)
  {d:Nat} (hd:d<=1000) {D7 j s:Ah}
  (xU:∀W,Below w0.heap.size w0 W->Calls Proofs.Tryz.prog 43 #[.pointer (some ⟨gn,off+(x.toNat-1)*13,none⟩)] W λe W'=>e= .returned (.string ⟨⟨s⟩⟩)/\Below W.heap.size W W')
  (hlen:(D7++List.replicate (2*d) 32++s++[10]).length<=AV)
  (xV:(c=0/\j=D7++List.replicate (2*d) 32++s++[10])\/(c≠0/\uo g w0 c (d+1) (D7++List.replicate (2*d) 32++s++[10]) j))
  (f:Nat->Ah) (ĵ:f 0=j) (hf:∀i,i<Bm.length->∃y,Bm[i]?=some [.int .i64 y]/\uo g w0 y (d+1) (f i) (f (i+1))):
  uo g w0 x d D7 (f Bm.length):=by
 intro B b W hB a hb F;obtain⟨p,P,qX,Um,qJ,ŭ⟩:=Ű hk;have h:AV=140737488355328:=rfl;simp only[Ao,HW,AK,AW] at hlen;have O:2*d<=140737488355328:=by rw[h] at hlen;omega
 have N:(Lib.byteCells D7).length+(⟨(List.replicate (2*d) (32:UInt8)).toArray⟩:ByteArray).size<=140737488355328:=by rw[h] at hlen;rw[byteCells_length];simp only[ByteArray.size,B5,HW];omega
 have M:(Lib.byteCells (D7++List.replicate (2*d) 32)).length+(⟨⟨s⟩⟩:ByteArray).size<=140737488355328:=by rw[h] at hlen;rw[byteCells_length];simp only[ByteArray.size,Ao,HW];show _+s.length<=_;omega
 have L:(Lib.byteCells (D7++List.replicate (2*d) 32++s)).length+1<=140737488355328:=by rw[h] at hlen;rw[byteCells_length];simp only[Ao,HW];omega
 have K:d<=9223372036854775807:=Bv hd AA;clear hlen h;have Hline:=nv xU;have o:=nv xV;have S:=nv hf;have w:=nv ŭ;have A:=nv Um;have z:=nv qJ;clear xU xV hf ŭ hk Um qJ;refine(callsIn_wide (n:=5)).1 ?_;refine callsIn_of_wp Proofs.Tryz.func36 rfl trivial ?_ rfl;simp only[Proofs.Tryz.ntmps36,B5,AK,AW,Nat.reduceAdd,Nat.reduceSub,KX,KY,Nt,LH,BA,B8];gi_wp2
 refine⟨trivial,(callsIn_wide.2 (aIj g gn off n cap x _ (M8 hb hc) UE ZI Qr hm)).mono ?_⟩;rintro e w' ⟨rfl,rfl⟩;gi_wp2
 refine⟨trivial,(callsIn_wide.2 (Proofs.Tryz.strings_Repeat ⟨#[32,32]⟩ d _ K O)).mono ?_⟩;rintro e W1 ⟨rfl,b1⟩;have Qx:Below w0.heap.size w0 W1:=hb.trans (b1.mono hb.size);have u:Below B W W1:=b1.mono a;have l1:=P1 F b1;have hr:(Lib.repeatL (⟨#[32,32]⟩:ByteArray).data.toList d)=List.replicate (2*d) 32:=sF d;rw[hr];gi_wp2
 refine⟨trivial,(callsIn_wide.2 (Proofs.Tryz.Builder_WriteString B b (Lib.byteCells D7) _ _ l1 N (Bv a u.size))).mono ?_⟩;rintro e Z ⟨rfl,l2,b2⟩;rw[m7,<-Ln] at l2;have t:=u.trans b2;have Qb:Below w0.heap.size w0 Z:=Qx.trans (b2.mono hB);gi_wp2
 refine⟨trivial,(callsIn_wide.2 (Hline.out _ Qb)).mono ?_⟩;rintro e W3 ⟨rfl,b3⟩;have I:Below w0.heap.size w0 W3:=Qb.trans (b3.mono Qb.size);have r:Below B W W3:=t.trans (b3.mono (Bv a t.size));have l3:=P1 (.inr l2) b3;gi_wp2
 refine⟨trivial,(callsIn_wide.2 (Proofs.Tryz.Builder_WriteString B b _ _ _ l3 M (Bv a r.size))).mono ?_⟩;rintro e Y ⟨rfl,l4,b4⟩;rw[fQ,<-Ln] at l4;have q:=r.trans b4;have H:Below w0.heap.size w0 Y:=I.trans (b4.mono hB);gi_wp2
 refine⟨trivial,(callsIn_wide.2 (Proofs.Tryz.Builder_WriteByte B b _ 10 _ (.inr l4) L (Bv a q.size))).mono ?_⟩;rintro e R ⟨rfl,C,b5⟩;have J:Lib.byteCells (D7++List.replicate (2*d) 32++s)++[Value.int .u8 10]=Lib.byteCells (D7++List.replicate (2*d) 32++s++[10]):=by rw[Ln (D7++List.replicate (2*d) 32++s) [10]];rfl
 replace C:=J▸C;have m:=q.trans b5;have k:Below w0.heap.size w0 R:=H.trans (b5.mono hB);have c5:=M8 k RI;clear Qr hm UE ZI hc O N M L K l1 l3 l4 l2;rcases o.out with⟨rfl,rfl⟩|⟨E,yz⟩
 .have l:=m;have l6:Lib.IsBuilder 96 5 B b (Lib.byteCells (f 0)) R:=by rw[ĵ];exact .inr C
  have X:=M8 k qX;gi_wp2
  exact yy hB a hb hd A.out z.out w.out f S.out l l6 _ _ _ _ _ _ _ _ _ _ _ _ _ _ _ _ _ _ _ _ _ _ _ _ _ _ _ _ _ _ _ _ _ _ _ _ _ _ _ _ _ _ _ _ _ _ _ _ _ _ _ _ _
 .have hne:(c != 0)=true:=by simp[E]
  have T:=cB d hd;have aIp:=yz B b _ hB (Bv a m.size) k (.inr C);rw[show((d+1:Nat):Int)=(d:Int)+1 from rfl] at aIp;gi_wp2
  refine⟨trivial,(callsIn_wide.2 aIp).mono ?_⟩;rintro e Q ⟨⟨v,rfl⟩,D,b6⟩;have l:=m.trans b6;have G:Below w0.heap.size w0 Q:=k.trans (b6.mono hB);have l6:Lib.IsBuilder 96 5 B b (Lib.byteCells (f 0)) Q:=by rw[ĵ];exact D
  have X:=M8 G qX;gi_wp2
  exact yy hB a hb hd A.out z.out w.out f S.out l l6 _ _ _ _ _ _ _ _ _ _ _ _ _ _ _ _ _ _ _ _ _ _ _ _ _ _ _ _ _ _ _ _ _ _ _ _ _ _ _ _ _ _ _ _ _ _ _ _ _ _ _ _ _
section
variable{U:Gh}{h:Ai}{w0:World}
abbrev aDy(fuel d:Nat)(a:Aa):List Aa->(Ah->IT)->Ah->IT:=λN7 K D7=>match N7 with
 |[.int .i64 y]=>Ij 43 a fuel y (d+1) D7 K
 |_=> .fail
def m8{run:IT->Ai->Option Ku}{g fuel d:Nat}{a:Aa}(ih:∀(x:Int) (D7:Ah) (k:Ah->IT) (res:Ku),IT.step (Cd cx) run (Ij 43 a fuel x (d+1) D7 k) h=some res->∃So,IT.step (Cd cx) run (k So) h=some res/\uo g w0 x (d+1) D7 So):
  ∀(Bm:List (List Aa)) (D7:Ah) (k:Ah->IT) (res:Ku),IT.step (Cd cx) run (Bm.foldr (aDy fuel d a) k D7) h=some res->
   ∃f:Nat->Ah,f 0=D7/\IT.step (Cd cx) run (k (f Bm.length)) h=some res/\∀i,i<Bm.length->∃y,Bm[i]?=some [.int .i64 y]/\uo g w0 y (d+1) (f i) (f (i+1))
 |[],D7,k,res,e=>⟨λ_=>D7,rfl,e,λi hi=>by simp at hi⟩
 |N7::Bm,D7,k,res,e=>by
  simp only[List.foldr_cons] at e;unfold aDy at e;split at e
  .rename_i y;obtain⟨b,j,l⟩:=ih _ _ _ _ e;obtain⟨f,f0,f1,f2⟩:=m8 ih Bm b k res j;refine⟨λ|0=>D7|i+1=>f i,rfl,f1,λi hi=>?_⟩;cases i with
   |zero=>
    have hc:uo g w0 y (d+1) D7 (f 0):=by rw[f0];exact l
    exact⟨y,rfl,hc⟩
   |succ i=>obtain⟨c,p,q⟩:=f2 i (by simpa using hi);exact⟨c,by simpa using p,q⟩
  .cases e
def y_{run:IT->Ai->Option Ku}{a:Aa}{x:Int}{d:Nat}{D7:Ah}{k:Ah->IT}{res:Ku}(fuel:Nat)(e:IT.step (Cd cx) run (Ij 43 a fuel x d D7 k) h=some res):∃id,a= .ptr (some (id,0)):=by
 cases fuel with
 |zero=>simp[Ij,IT.step] at e
 |succ fuel=>
  simp only[Ij,IT.step,Eu] at e;cases e0:nj h [a,.int .i64 x] with
  |none=>simp[e0] at e
  |some b=>
   unfold nj at e0;split at e0;.rename_i id x' K4;cases K4;exact⟨id,rfl⟩
   .cases e0
def m9{n:Nat}(hs:Fk cx (IT.run (Cd cx) n))(hi:Ic U h w0)(hg:∀g cs,cx.HB g=some cs->C2 U cs g 0){id g:Nat}(hm:U.mu id=some g):
  ∀(fuel:Nat) (x:Int) (d:Nat) (D7:Ah) (k:Ah->IT) (res:Ku),d+fuel<=1000->IT.step (Cd cx) (IT.run (Cd cx) n) (Ij 43 (.ptr (some (id,0))) fuel x d D7 k) h=some res->
   ∃So,IT.step (Cd cx) (IT.run (Cd cx) n) (k So) h=some res/\uo g w0 x d D7 So/\∃p cap ln,w0.cell? ⟨g,0,none⟩=some (.slice p ln cap)/\1<=x/\x<=ln
 |0,x,d,D7,k,res,_,e=>by simp[Ij,IT.step] at e
 |fuel+1,x,d,D7,k,res,hd,e=>by
  simp only[Ij,IT.step,Eu] at e;cases e0:nj h [.ptr (some (id,0)),.int .i64 x] with
  |none=>simp[e0] at e
  |some v=>
  obtain⟨h1,r⟩:=v;simp only[e0] at e;obtain⟨o,gn,off,y,cap,row,c,Bm,rfl,j,l,hc,Qr,i,UE,ZI,hrow,RI,hk⟩:=yw hi hm e0;simp only[IT.step] at e;rw[o] at e;clear o;cases m:IT.run (Cd cx) n (Cd cx 43 [.B9 row]) [] with
  |none=>simp[m] at e
  |some z=>
  simp only[m] at e;split at e
  .rename_i w t K4;cases K4;split at e
   .split at e
    .rename_i s Jj;split at e
     .rename_i hlen;have ih:∀(x:Int) (D7:Ah) (k:Ah->IT) (res:Ku),IT.step (Cd cx) (IT.run (Cd cx) n) (Ij 43 (.ptr (some (id,0))) fuel x (d+1) D7 k) h=some res->∃So,IT.step (Cd cx) (IT.run (Cd cx) n) (k So) h=some res/\uo g w0 x (d+1) D7 So:=λx D7 k res e=>by obtain⟨So,p,q,_⟩:=m9 hs hi hg hm fuel x (d+1) D7 k res Ab e;exact⟨So,p,q⟩
      have xU:∀W,Below w0.heap.size w0 W->Calls Proofs.Tryz.prog 43 #[.pointer (some ⟨gn,off+(x.toNat-1)*13,none⟩)] W λe W'=>e= .returned (.string ⟨⟨s⟩⟩)/\Below W.heap.size W W':=
       λW hb=>ů hs hi hg m hb hrow
      have Jz:∀a,((c=0/\a=D7++List.replicate (2*d) 32++s++[10])\/(c≠0/\uo g w0 c (d+1) (D7++List.replicate (2*d) 32++s++[10]) a))->
        IT.step (Cd cx) (IT.run (Cd cx) n) (Bm.foldr (aDy fuel d (.ptr (some (id,0)))) k a) h=some res->∃So,IT.step (Cd cx) (IT.run (Cd cx) n) (k So) h=some res/\uo g w0 x d D7 So/\∃p cap ln,w0.cell? ⟨g,0,none⟩=some (.slice p ln cap)/\1<=x/\x<=ln:=by
       intro a xV u;obtain⟨f,f0,f1,f2⟩:=m8 ih Bm a k res u;exact⟨f Bm.length,f1,aDw j l hc Qr i UE ZI RI hk Ab xU hlen xV f f0 f2,_,_,_,hc,UE,ZI⟩
      split at e;.rename_i b;exact Jz _ (.inl ⟨b,rfl⟩) e
      .rename_i b;obtain⟨a,p,q⟩:=ih _ _ _ _ e;exact Jz a (.inr ⟨b,q⟩) p
     .cases e
    .cases e
   .cases e
  .cases e
end
def aDA{w0:World}{g ln cap:Nat}{p:Option Addr}{x:Int}{s:Ah}(a:g<w0.heap.size)(hc:w0.cell? ⟨g,0,none⟩=some (.slice p ln cap))(UE:1<=x)(ZI:x<=ln)(yz:uo g w0 x 0 [] s):
  Calls Proofs.Tryz.prog 29 #[.pointer (some ⟨g,0,none⟩),.int .i64 x] w0 λe w'=>e= .returned (.string ⟨⟨s⟩⟩)/\Below w0.heap.size w0 w':=by
 have b:decide (1<=x/\x<=ln)=true:=Ak ⟨UE,ZI⟩;have aMV:(w0.alloc (.cells #[.pointer none,.slice none 0 0] 96)).heap[w0.heap.size]?=some (.cells #[.pointer none,.slice none 0 0] 96 (0,0)):=World.alloc_heap_new w0 _;have Qx:Below w0.heap.size w0 (w0.alloc (.cells #[.pointer none,.slice none 0 0] 96)):=(Below.refl _ w0).alloc (Ad _) _;have l1:Lib.IsBuilder 96 5 w0.heap.size w0.heap.size (Lib.byteCells []) (w0.alloc (.cells #[.pointer none,.slice none 0 0] 96)):=
  .inl ⟨Ad _,.slice none 0 0,aMV,World.ownsRow_nil _ _ _ _,by simp[Value.ownBlock]⟩
 have WH:=yz w0.heap.size w0.heap.size _ (Ad _) AB Qx l1;rw[show((0:Nat):Int)=0 from rfl] at WH;refine(callsIn_wide (n:=5)).1 ?_;refine callsIn_of_wp Proofs.Tryz.func29 rfl trivial ?_ rfl;simp only[Proofs.Tryz.ntmps29,B5,AK,AW,Nat.reduceAdd,Nat.reduceSub,KX,KY,Nt,LH,BA,B8];gi_wp2
 refine⟨trivial,(callsIn_wide.2 (cA g _ ln cap x _ hc)).mono ?_⟩;rintro e w' ⟨rfl,rfl⟩;rw[b];gi_wp2
 refine⟨trivial,(callsIn_wide.2 WH).mono ?_⟩;rintro e c ⟨⟨v,rfl⟩,l2,b2⟩;gi_wp2
 refine⟨trivial,(callsIn_wide.2 (Proofs.Tryz.Builder_String_any w0.heap.size w0.heap.size s _ l2 (by have:=b2.size;have:=Qx.size;omega))).mono ?_⟩;rintro e W3 ⟨rfl,b3⟩;gi_wp2
 refine bodyPost_ret (results_tmp rfl _ _ _) rfl ?_;exact⟨rfl,(Qx.trans b2).trans b3⟩
def aDB{h:Ai}(n:Nat)(hs:Fk cx (IT.run (Cd cx) n))(args:List Aa)(r:Aa)(h':Ai)(AM:IT.step (Cd cx) (IT.run (Cd cx) n) (xP 43 args) h=some (.ret,[r],h')):
  (∃fn c,cx.P.funcs[Fe 29]?=some fn/\(fn.name== "runtime.NumGoroutine")=false/\fn.body=some c)/\
  ∀(U:Gh) (w:World) (cargs:Array Value),Ic U h w->(∀g cs,cx.HB g=some cs->C2 U cs g 0)->A8 U args cargs.toList->
   Calls cx.P (Fe 29) cargs w λe w'=>match e with
    | .returned v=>∃d,Ic d h' w'/\M1 U w d w'/\BP d r v/\(cx.KC 29=true->∃s c,JO d w.heap.size w' s c v r)
    |_=>False:=by
 refine⟨⟨_,_,Proofs.Tryz.func29,rfl,rfl⟩,λU w cargs hi hg ha=>?_⟩;have aMW:∃id x,args=[.ptr (some (id,0)),.int .i64 x]:=by
  unfold xP at AM;split at AM;.rename_i a x;obtain⟨id,rfl⟩:=y_ _ AM;exact⟨id,x,rfl⟩
  .cases AM
 obtain⟨id,x,rfl⟩:=aMW;obtain⟨v0,us,f,⟨g,hm,rfl⟩,k,i,rfl,rfl,hnil⟩:=ha;cases hnil;have b:cargs=#[.pointer (some ⟨g,0,none⟩),.int .i64 x]:=by apply HV;simpa using f
 subst b;simp only[xP] at AM;obtain⟨D7,j,yz,p,cap,ln,hc,UE,ZI⟩:=m9 hs hi hg hm 100 x 0 [] _ _ Ab AM;cases j;refine(aDA (DU hc) hc UE ZI yz).mono λe w' he=>?_;obtain⟨rfl,hb⟩:=he;obtain⟨bR,UB⟩:=hi.M7 hb;exact⟨U,bR,UB,rfl,λe=>by cases e⟩
end Go.Am
end
section
namespace Go.Am
open Go
def ű:fE cx:=by
 refine⟨λf hf=>?_,λf p hp n hs args h r h' AM=>?_⟩
 .simp only[cx,aH8] at hf;split at hf;.exact nu
  .cases hf
 .simp only[cx,aBX] at hp;split at hp;.cases hp;exact aDB n hs args r h' AM
  .cases hp;exact Ŭ n hs args r h' AM
  .cases hp;exact Ů n args r h' AM
  .cases hp
end Go.Am
end
