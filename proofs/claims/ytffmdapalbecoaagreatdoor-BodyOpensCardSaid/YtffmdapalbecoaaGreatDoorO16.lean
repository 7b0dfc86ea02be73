/- Lemmas -/
import Derived.Test.YtffmdapalbecoaaGreatDoorO15
import Derived.RangeFuncBox
import Derived.OwnWalkIn
import Derived.TacticsInMore
import Derived.LoopNIn
import Derived.Sort.LoopGhostIn
set_option linter.all false
set_option maxHeartbeats 0
set_option maxRecDepth 100000
section
namespace Go.Am
open Go Go.RowKit Go.Shelf
def eI(ga:Nat)(p:Option Addr)(n cap:Nat)(x:Int)(w:World)(hc:w.cell? ⟨ga,0,none⟩=some (.slice p n cap)):
  Calls Proofs.Tryz.prog 53 #[.pointer (some ⟨ga,0,none⟩),.int .i64 x] w λe w'=>e= .returned (.bool (decide (1<=x/\x<=n)))/\w=w':=by
 go_enter Proofs.Tryz.func53,Proofs.Tryz.ntmps53
 go_wp2
 all_goals refine bodyPost_ret (results_tmp rfl _ _ _) rfl ?_
 all_goals simp_all
 all_goals omega
def aIR(ga gn off n cap:Nat)(x:Int)(w:World)(hc:w.cell? ⟨ga,0,none⟩=some (.slice (some ⟨gn,off,none⟩) n cap))(h1:1<=x)(h2:x<=n)(Qn:n<=cap)(hm:cap<=maxLen):
  Calls Proofs.Tryz.prog 152 #[.pointer (some ⟨ga,0,none⟩),.int .i64 x] w λe w'=>e= .returned (.pointer (some ⟨gn,off+(x.toNat-1)*13,none⟩))/\w=w':=by
 have hb:maxLen<=9223372036854775807:=Bf;have hw:wrap64 (x-1)=x-1:=Go.IntWalk.wrap64_in _ ⟨Ab,Ab⟩;go_enter Proofs.Tryz.func152,Proofs.Tryz.ntmps152
 go_wp2
 all_goals refine bodyPost_ret (results_tmp rfl _ _ _) rfl ?_
 all_goals exact⟨rfl,rfl⟩
def aIS(ga:Nat)(x:Int)(w:World):
  Calls Proofs.Tryz.prog 361 #[.pointer (some ⟨ga,0,none⟩),.int .i64 x,.bool true] w λe w'=>e= .returned (.func (.func 414) #[] #[.pointer (some ⟨w.heap.size+1,0,none⟩),.pointer (some ⟨w.heap.size,0,none⟩),.pointer (some ⟨w.heap.size+1+1,0,none⟩)])/\
   w'=((w.alloc (.cells #[.pointer (some ⟨ga,0,none⟩)] 59)).alloc (.cells #[.int .i64 x] 3)).alloc (.cells #[.bool true] 4):=by
 have a:∀(fn:Fn) (first cap:Array Value) (w:World),(Instr.makeFunc fn first cap).run Proofs.Tryz.prog w= .ok (.func fn first cap) w:=λ_ _ _ _=>rfl;go_enter Proofs.Tryz.func361,Proofs.Tryz.ntmps361
 go_wp2
 go_ret
 exact⟨rfl,rfl⟩
def xO{cs:List Aa}{off n:Nat}{up:Int}{k:Nat}{b:Bool}(h:Mn cs off n up k 0=some b):b=false:=by cases k<;>simp[Mn] at h<;>exact h
def xP{cs:List Aa}{off n:Nat}{up x:Int}{k:Nat}{b:Bool}(h:Mn cs off n up k x=some b)(hx:x≠0):∃k',k=k'+1/\
  ((x=up/\b=true)\/(x≠up/\1<=x/\x<=n/\∃p q,Hs cs off x 1=some p/\Hs cs off x 12=some q/\Mn cs off n up k' (if p=0 then q else p)=some b)):=by
 cases k with
 |zero=>
  rw[Mn] at h;. cases h
  .exact λe=>hx e
 |succ k=>
  refine⟨k,rfl,?_⟩;rw[Mn] at h
  .split at h;.rename_i e;cases h;exact .inl ⟨e,rfl⟩
   .rename_i e;split at h
    .rename_i hr;split at h;.rename_i p q c a;exact .inr ⟨e,hr.1,hr.2,p,q,c,a,h⟩
     .cases h
    .cases h
  .exact λe=>hx e
structure rK(Ba Bo ga gn off n cap:Nat)(cs:List Aa)(W:World):Prop where
 a:W.cell? ⟨Ba,0,none⟩=some (.pointer (some ⟨ga,0,none⟩))
 o:W.cell? ⟨Bo,0,none⟩=some (.bool true)
 c:W.cell? ⟨ga,0,none⟩=some (.slice (some ⟨gn,off,none⟩) n cap)
 x:∀(h:Int) (k:Nat) (v:Int),1<=h->h<=n->(k=1\/k=12)->Hs cs off h k=some v->W.cell? ⟨gn,off+(h.toNat-1)*13+k,none⟩=some (.int .i64 v)
def rK.OV{Ba Bo ga gn off n cap:Nat}{cs:List Aa}{A B:World}(h:rK Ba Bo ga gn off n cap cs A)(hk:∀b,b=Ba\/b=Bo\/b=ga\/b=gn->B.heap[b]?=A.heap[b]?):rK Ba Bo ga gn off n cap cs B:=
 ⟨by rw[CX (hk _ AH)];exact h.a,by rw[CX (hk _ AH)];exact h.o,by rw[CX (hk _ AH)];exact h.c,
  λx k v h1 h2 e d=>by rw[CX (hk _ AH)];exact h.x x k v h1 h2 e d⟩
def fy{Ba Bo ga gn off n cap a:Nat}{cs:List Aa}{A:World}{u:Value}{J:World->Prop}(c:∀A B row,J A->A.grownBy B row->(∀r,row=some r->r=a)->J B)
  (hd:∀b,b=Ba\/b=Bo\/b=ga\/b=gn->b≠a) (hs:rK Ba Bo ga gn off n cap cs A) (hc:A.cell? ⟨a,0,none⟩=some u) (hf:A.frozen? ⟨a,0,none⟩=false) (hj:J A) (v:Value):
  rK Ba Bo ga gn off n cap cs (A.setCell ⟨a,0,none⟩ v)/\(A.setCell ⟨a,0,none⟩ v).cell? ⟨a,0,none⟩=some v/\(A.setCell ⟨a,0,none⟩ v).frozen? ⟨a,0,none⟩=false/\J (A.setCell ⟨a,0,none⟩ v):=
 ⟨hs.OV λb hb=>Below.heap_setCell _ _ _ b (hd b hb),World.cell?_setCell_same _ _ _ hc,by rw[World.frozen?_setCell];exact hf,c _ _ _ hj (grownBy_setCell' A a v) λr e=>by cases e;rfl⟩
def aIT(m l d Ba Bo n₁ ga gn off n cap:Nat)(cs:List Aa)(up:Int)(J F:World->Prop)
  (D:∀A B row,J A->A.grownBy B row->(∀r,row=some r->r=d)->J B)
  (M:∀x W,J W->YieldAt Fence.wide (m-1) Proofs.Tryz.prog l #[.int .i64 x] W λe W'=>(e= .returned (.bool true)/\J W'/\Below n₁ W W'/\x≠up)\/(e= .returned (.bool false)/\F W'/\x=up))
  (hd:∀b,b=Ba\/b=Bo\/b=ga\/b=gn->b<n₁/\b≠d) (j:d<n₁) (Qn:n<=cap) (hm:cap<=maxLen)
  (W:World) (s:Int) (hs:rK Ba Bo ga gn off n cap cs W) (u:W.cell? ⟨d,0,none⟩=some (.int .i64 s)) (hf:W.frozen? ⟨d,0,none⟩=false)
  (fuel:Nat) (b:Bool) (hcl:Mn cs off n up fuel s=some b) (h0:J W):
  CallsIn Fence.wide m Proofs.Tryz.prog 414 #[.func (.yield l) #[] #[],.pointer (some ⟨d,0,none⟩),.pointer (some ⟨Ba,0,none⟩),.pointer (some ⟨Bo,0,none⟩)] W λe W'=>(∃v,e= .returned v)/\((b=false/\J W')\/(b=true/\F W')):=by
 refine callsIn_of_wp Proofs.Tryz.func414 rfl trivial ?_ rfl;simp only[Proofs.Tryz.ntmps414,Ca,Bn,BP,Nat.reduceAdd,Nat.reduceSub,KV,KW,Nt,LA,BY,CQ];gi_wp2
 gi_loopg [] fuel (λk wr=>∃x,Mn cs off n up k x=some b/\rK Ba Bo ga gn off n cap cs wr/\wr.cell? ⟨d,0,none⟩=some (.int .i64 x)/\wr.frozen? ⟨d,0,none⟩=false/\J wr)
 case atStart=>exact⟨s,hcl,hs,u,hf,h0⟩
 case round=>
  obtain⟨x,hcl,hs,u,hf,hj⟩:=hrel;by_cases hx:x=0
  .subst hx;have:=xO hcl;subst this;gi_wp2
   refine⟨nofun,?_⟩;gi_wp2
   go_end0
   exact⟨⟨_,rfl⟩,hj⟩
  .obtain⟨k',rfl,JG⟩:=xP hcl hx;have hne:(x != 0)=true:=by simp[hx]
   obtain⟨fn,tmps,assign,body,hy,hR⟩:=M x wr hj;gi_wp2
   refine⟨nofun,?_⟩;refine hR.mono ?_;rintro e W3 (⟨rfl,y,vU,g⟩|⟨rfl,i,g⟩)
   .rcases JG with⟨rfl,_⟩|⟨_,h1,h2,p,q,O,N,aE4⟩
    .exact absurd rfl g
    have f:=hs.OV λb hb=>vU.block b (hd b hb).1;have t:W3.cell? ⟨d,0,none⟩=some (.int .i64 x):=by rw[CX (vU.block d j)];exact u
    have w:W3.frozen? ⟨d,0,none⟩=false:=by rw[<-hf];simp only[World.frozen?,vU.block d j]
    have hp:=f.x x 1 p h1 h2 (.inl rfl) O;have hq:=f.x x 12 q h1 h2 (.inr rfl) N;have Q:=f.a;have P:=f.o;have I:¬Bo=d:=(hd Bo AH).2;have H:¬gn=d:=(hd gn AH).2;gi_wp2
    refine⟨trivial,nofun,(callsIn_wide.2 (aIR ga gn off n cap x _ f.c h1 h2 Qn hm)).mono ?_⟩;rintro e w' ⟨rfl,rfl⟩;obtain⟨z,E,z4,C⟩:=fy D (λb hb=>(hd b hb).2) f t w y (.int .i64 p);by_cases h:p=0
    .subst h;obtain⟨G,R,z5,K⟩:=fy D (λb hb=>(hd b hb).2) z E z4 C (.int .i64 q);gi_wp2
     gi_roundg k'
     case measure=>omega
     case rel=>exact⟨q,aE4,G,R,z5,K⟩
    .have L:(p==0)=false:=by simp[h]
     gi_wp2
     gi_roundg k'
     case measure=>omega
     case rel=>exact⟨p,by rw[Ac h] at aE4;exact aE4,z,E,z4,C⟩
   .rcases JG with⟨_,rfl⟩|⟨aOf,_⟩
    .gi_wp2
     go_end0
     exact⟨⟨_,rfl⟩,i⟩
    .exact absurd g aOf
def aE6(n₁:Nat)(up:Int)(I a:World->Prop)(x:Int)(W:World):Exit->Act->World->Prop
 | .normal,_,W'=>KeepsOthers W W'/\Below n₁ W W'/\I W'/\x≠up
 | .ret,_,W'=>KeepsOthers W W'/\a W'/\x=up
 | .exit _,_,_=>False
 | .goto _,_,_=>False
 | .panic _,_,_=>False
 | .outgrown,_,_=>False
def iO{P:Program}{n gf:Nat}{lb:Array Value}{g:Operand}{ps:Array Tmp}{assign body:Code}{Q:Exit->Act->World->Prop}{a:Act}{w:World}(h:Nat)(b:Bool)(up:Int)
  (hg:a.eval g= .func (.func gf) #[] lb) (u:∀args w,(callFunc gf args).run P w= .ok (.enter gf args) w) (s:h<w.heap.size)
  (aE7:∀(l:Nat) (J o:World->Prop) (W:World),Below w.heap.size w W->(∀A B row,J A->A.grownBy B row->(∀r,row=some r->r=h)->J B)->
   (∀x W1,J W1->YieldAt Fence.wide (n-1 -1) P l #[.int .i64 x] W1 λe W'=>(e= .returned (.bool true)/\J W'/\Below w.heap.size W1 W'/\x≠up)\/(e= .returned (.bool false)/\o W'/\x=up))->J W->
   CallsIn Fence.wide (n-1) P gf (#[.func (.yield l) #[] #[]]++lb) W λe W'=>(∃v,e= .returned v)/\((b=false/\J W')\/(b=true/\o W')))
  (ś:ps.size=1) (I f:World->Prop) (hI:∀A B row,I A->A.grownBy B row->(∀r,row=some r->r=h\/w.heap.size<=r)->I B)
  (hIx:∀A B row,f A->A.grownBy B row->(∀r,row=some r->r=h\/w.heap.size<=r)->f B) (h0:I w) (a₁:Int->Act)
  (hassign:∀(l:Nat) (x:Int) (W:World) (K:Act->World->Prop),K (a₁ x) W->
   assign.wpIn (Fence.wide.inRound l) (n-1 -1) P (Exit.then K (λ_ _ _=>False)) {tmps:=(ps.zip #[.int .i64 x]).foldl (λt (p,v)=>t.setIfInBounds p v) a.tmps,defers:=[]} W)
  (Y0:∀(l:Nat) (x:Int) (W:World),I W->body.wpIn (Fence.wide.inRound l) (n-1 -1) P (aE6 w.heap.size up I f x W) (a₁ x) W)
  (zx:∀(D:Nat) (W:World),b=false->I W->W.heap[D]?=some (.deferred (some []))->w.heap.size<=D->Q .normal {a with defers:={target:= .collected D,args:=#[]}::a.defers} W)
  (zy:∀(D:Nat) (W:World),b=true->f W->W.heap[D]?=some (.deferred (some []))->w.heap.size<=D->Code.ret.wpIn Fence.wide n P Q {a with defers:={target:= .collected D,args:=#[]}::a.defers} W):
  (Code.rangeFunc g ps assign body).wpIn Fence.wide n P Q a w:=by
 refine wpIn_rangeFunc ?_;intro fn Ŗ;have hro:Fence.wide.round=none:=rfl;rw[hro];obtain⟨rec,Xb⟩:∃rec:LoopState->Option Code->Loop,rec=λst q=>{state:=st,pending:=q,fn,tmps:=a.tmps,params:=ps,assign,body,defers:=w.heap.size}:=⟨_,rfl⟩;obtain⟨W1,c⟩:∃W1,(w.alloc (.deferred (some []))).alloc (.loop (rec .ready none))=W1:=⟨_,rfl⟩;have i:W1.heap[w.heap.size+1]?=some (.loop (rec .ready none)):=by rw[<-c];have:=World.alloc_heap_new (w.alloc (.deferred (some []))) (.loop (rec .ready none));rwa [World.size_alloc] at this
 have j:W1.heap[w.heap.size]?=some (.deferred (some [])):=by rw[<-c];exact(Below.heap_alloc _ _ _ AH).trans (World.alloc_heap_new w _)
 have k:I W1:=by rw[<-c];exact hI _ _ none (hI _ _ none h0 (World.grownBy_alloc _ _ none) nofun) (World.grownBy_alloc _ _ none) nofun
 have UP:Below w.heap.size w W1:=by rw[<-c];exact(((Below.refl _ w).alloc (Ae _) _).alloc AH _)
 refine⟨w.heap.size+1,[{target:= .collected w.heap.size,args:=#[]}],W1,{target:= .fn (.func gf) lb,args:=#[.func (.yield (w.heap.size+1)) #[] #[]]},W1,gf,
  #[.func (.yield (w.heap.size+1)) #[] #[]]++lb,W1,?_,?_,?_,?_,nofun,?_⟩
 .rw[<-c,Xb];exact run_enterLoop_outer _ _ _ _ _
 .simp only[resolve,hg];simp[go_sem]
 .intro f' zd;trivial
 .simp[invoke,go_sem,u]
 .refine(aE7 (w.heap.size+1)
   (λW=>I W/\W.heap[w.heap.size+1]?=some (.loop (rec .ready none))/\W.heap[w.heap.size]?=some (.deferred (some [])))
   (λW=>f W/\W.heap[w.heap.size+1]?=some (.loop (rec .done (some .ret)))/\W.heap[w.heap.size]?=some (.deferred (some [])))
   W1 UP
   (λA B row hs hg' hr=>⟨hI A B row hs.1 hg' (λr e=> .inl (hr r e)),(hg'.block _ (Bc.1 hs.2.1).1 (λe=>by have:=hr _ e.symm;omega)).trans hs.2.1,
    (hg'.block _ (Bc.1 hs.2.2).1 (λe=>by have:=hr _ e.symm;omega)).trans hs.2.2⟩)
   ?_ ⟨k,i,j⟩).mono ?_
  .rintro x W ⟨hi,hl,hk⟩;have hlt:w.heap.size+1<W.heap.size:=(Bc.1 hl).1;have hy:=run_yield (P:=P) (args:=#[.int .i64 x]) hl (by rw[Xb];exact ś.symm);rw[Xb] at hy;refine⟨fn,_,assign,body,hy,roundIn_of_wpIn Ŗ (hassign _ x W _ ⟨_,run_beginRound hl (by rw[Xb]),?_⟩)⟩;have eH:(W.putObj (w.heap.size+1) (.loop {rec .ready none with state:= .busy})).heap[w.heap.size+1]?=some (.loop {rec .ready none with state:= .busy}):=World.putObj_heap_same hlt;have bL:(W.putObj (w.heap.size+1) (.loop {rec .ready none with state:= .busy})).heap[w.heap.size]?=some (.deferred (some [])):=(World.putObj_heap_other Ab).trans hk;have zb:Below w.heap.size W (W.putObj (w.heap.size+1) (.loop {rec .ready none with state:= .busy})):=belowK_b (Ae _) W _ _ _ Ab hl rfl rfl;refine wpIn_mono (Y0 _ x _ (hI _ _ _ hi (grownBy_putObj' W _ _) (λr e=> .inr (by cases e;omega)))) ?_;have He:∀(jump:Option Code) (W3:World),KeepsOthers (W.putObj (w.heap.size+1) (.loop {rec .ready none with state:= .busy})) W3->
     (Instr.endRound (w.heap.size+1) jump).run P W3= .ok (.bool jump.isNone) (W3.putObj (w.heap.size+1) (.loop (rec (if jump.isNone then .ready else .done) jump)))/\
     W3.heap[w.heap.size+1]?=some (.loop {rec .ready none with state:= .busy})/\
     (W3.putObj (w.heap.size+1) (.loop (rec (if jump.isNone then .ready else .done) jump))).heap[w.heap.size+1]?=some (.loop (rec (if jump.isNone then .ready else .done) jump))/\
     (W3.putObj (w.heap.size+1) (.loop (rec (if jump.isNone then .ready else .done) jump))).heap[w.heap.size]?=some (.deferred (some [])):=λjump W3 vU=>by
    have pV:=vU.same _ _ eH rfl;have:=run_endRound (P:=P) jump pV;rw[Xb] at this⊢;exact⟨this,by rw[Xb] at pV;exact pV,World.putObj_heap_same (Bc.1 pV).1,(World.putObj_heap_other Ab).trans (vU.same _ _ bL rfl)⟩
   rintro e a3 W3 hp;cases e with
   |normal=>obtain⟨vU,aOh,ũ,hne⟩:=hp;obtain⟨hr,pV,d,ů⟩:=He none W3 vU;exact⟨_,_,hr,.inl ⟨rfl,⟨hI _ _ _ ũ (grownBy_putObj' W3 _ _) (λr e=> .inr (by cases e;omega)),d,ů⟩,(zb.trans aOh).trans (belowK_b (Ae _) W3 _ _ _ Ab pV rfl rfl),hne⟩⟩
   |ret=>obtain⟨vU,ũ,he⟩:=hp;obtain⟨hr,pV,d,ů⟩:=He (some .ret) W3 vU;exact⟨_,_,hr,.inr ⟨rfl,⟨hIx _ _ _ ũ (grownBy_putObj' W3 _ _) (λr e=> .inr (by cases e;omega)),d,ů⟩,he⟩⟩
   |exit id=>exact hp.elim
   |goto t=>exact hp.elim
   |panic y=>exact hp.elim
   |outgrown=>exact hp.elim
  .rintro e m ⟨⟨v,rfl⟩,⟨hb,hi,hl,hk⟩|⟨hb,hi,hl,hk⟩⟩;.exact⟨none,_,by have:=run_endLoop (P:=P) hl (by rw[Xb];simp);rw[Xb] at this;exact this,zx _ _ hb (hI _ _ _ hi (grownBy_putObj' m _ _) (λr e=> .inr (by cases e;omega))) ((World.putObj_heap_other Ab).trans hk) (Ae _)⟩
   .exact⟨some .ret,_,by have:=run_endLoop (P:=P) hl (by rw[Xb];simp);rw[Xb] at this;exact this,zy _ _ hb (hIx _ _ _ hi (grownBy_putObj' m _ _) (λr e=> .inr (by cases e;omega))) ((World.putObj_heap_other Ab).trans hk) (Ae _)⟩
def CY{W:World}{k j:Nat}{v:Value}(o:Obj)(h:W.cell? ⟨k,j,none⟩=some v):(W.alloc o).cell? ⟨k,j,none⟩=some v:=by rw[World.cell?_alloc_past _ _ _ (D6 h)];exact h
def LI{W:World}{k j:Nat}{v:Value}(o:Obj)(h:W.cell? ⟨k,j,none⟩=some v):(W.alloc o).frozen? ⟨k,j,none⟩=W.frozen? ⟨k,j,none⟩:=
 World.frozen?_alloc_past _ _ _ (D6 h)
def MJ(W:World)(v:Value)(t:TypeId):(W.alloc (.cells #[v] t)).cell? ⟨W.heap.size,0,none⟩=some v/\(W.alloc (.cells #[v] t)).frozen? ⟨W.heap.size,0,none⟩=false:=by
 have h:(W.alloc (.cells #[v] t)).heap[W.heap.size]?=some (.cells #[v] t (0,0)):=World.alloc_heap_new W _;constructor;.simp only[World.cell?,h];rfl
 .simp only[World.frozen?,h];rfl
def Y5{A B:World}{row:Option Nat}{k:Nat}{v:Value}(h:A.cell? ⟨k,0,none⟩=some v)(hg:A.grownBy B row)(hr:∀r,row=some r->k≠r):
  B.cell? ⟨k,0,none⟩=some v/\B.frozen? ⟨k,0,none⟩=A.frozen? ⟨k,0,none⟩:=by
 have hb:B.heap[k]?=A.heap[k]?:=hg.block k (D6 h) (λe=>hr k e.symm rfl);exact⟨by rw[CX hb];exact h,by simp only[World.frozen?,hb]⟩
def aE8(ga gn off n cap:Nat)(cs:List Aa)(up x:Int)(w:World)(o:ga<w.heap.size)(E:gn<w.heap.size)(Qn:n<=cap)(hm:cap<=maxLen)
  (hc:w.cell? ⟨ga,0,none⟩=some (.slice (some ⟨gn,off,none⟩) n cap))
  (hx:∀(h:Int) (k:Nat) (v:Int),1<=h->h<=n->(k=1\/k=12)->Hs cs off h k=some v->w.cell? ⟨gn,off+(h.toNat-1)*13+k,none⟩=some (.int .i64 v))
  (b:Bool) (hcl:Mn cs off n up (n+1) x=some b) (PU:1<=up) (Ja:up<=n) (PY:1<=x) (iP:x<=n):
  Calls Proofs.Tryz.prog 236 #[.pointer (some ⟨ga,0,none⟩),.int .i64 up,.int .i64 x] w λe w'=>e= .returned (.bool b)/\Below w.heap.size w w':=by
 refine(callsIn_wide (n:=5)).1 ?_;refine callsIn_of_wp_marks Proofs.Tryz.func236 rfl trivial ?_;simp only[Proofs.Tryz.ntmps236,Ca,Bn,BP,Nat.reduceAdd,Nat.reduceSub,KV,KW,Nt,LA,BY,CQ];have s:((w.alloc (.cells #[.int .i64 up] 3)).alloc (.cells #[.bool false] 4)).cell? ⟨ga,0,none⟩=some (.slice (some ⟨gn,off,none⟩) n cap):=by rw[World.cell?_alloc_past _ _ _ EP,World.cell?_alloc_past _ _ _ o];exact hc
 have z:=MJ w (.int .i64 up) 3;have d:=MJ (w.alloc (.cells #[.int .i64 up] 3)) (.bool false) 4;have u:=MJ ((w.alloc (.cells #[.int .i64 up] 3)).alloc (.cells #[.bool false] 4)) (.pointer (some ⟨ga,0,none⟩)) 59;have i:=MJ (((w.alloc (.cells #[.int .i64 up] 3)).alloc (.cells #[.bool false] 4)).alloc (.cells #[.pointer (some ⟨ga,0,none⟩)] 59)) (.int .i64 x) 3;have t:=MJ ((((w.alloc (.cells #[.int .i64 up] 3)).alloc (.cells #[.bool false] 4)).alloc (.cells #[.pointer (some ⟨ga,0,none⟩)] 59)).alloc (.cells #[.int .i64 x] 3)) (.bool true) 4;simp only[World.size_alloc] at d u i t;have I:decide (1<=up/\up<=n)=true:=As ⟨PU,Ja⟩;have H:decide (1<=x/\x<=n)=true:=As ⟨PY,iP⟩;gi_wp2
 refine⟨trivial,(callsIn_wide.2 (eI ga _ n cap up _ s)).mono ?_⟩;rintro e w' ⟨rfl,rfl⟩;rw[I];gi_wp2
 refine⟨trivial,(callsIn_wide.2 (eI ga _ n cap x _ s)).mono ?_⟩;rintro e w' ⟨rfl,rfl⟩;rw[H];gi_wp2
 refine⟨trivial,(callsIn_wide.2 (aIS ga x _)).mono ?_⟩;rintro e w' ⟨rfl,rfl⟩;gi_wp2
 refine iO (gf:=414) (lb:=#[.pointer (some ⟨w.heap.size+1+1+1,0,none⟩),.pointer (some ⟨w.heap.size+1+1,0,none⟩),.pointer (some ⟨w.heap.size+1+1+1+1,0,none⟩)]) (w.heap.size+1+1+1) b up rfl (Go.Proofs.enters_of Proofs.Tryz.func414 C8 rfl) AH
  ?aE7 rfl
  (λW=>Below w.heap.size w W/\W.cell? ⟨w.heap.size,0,none⟩=some (.int .i64 up)/\W.cell? ⟨w.heap.size+1,0,none⟩=some (.bool false)/\W.frozen? ⟨w.heap.size+1,0,none⟩=false)
  (λW=>Below w.heap.size w W/\W.cell? ⟨w.heap.size+1,0,none⟩=some (.bool true)) ?hI ?hIx ?h0
  (λy=>{tmps:=#[.pointer (some ⟨ga,0,none⟩),.int .i64 up,.int .i64 x,undef,.pointer (some ⟨w.heap.size,0,none⟩),undef,.pointer (some ⟨w.heap.size+1,0,none⟩),.int .i64 y,.pointer (some ⟨ga,0,none⟩),.int .i64 up,.bool true,.bool false,.bool false,.pointer (some ⟨ga,0,none⟩),.int .i64 x,.bool true,.bool false,.bool false,.pointer (some ⟨ga,0,none⟩),.int .i64 x,.func (.func 414) #[] #[.pointer (some ⟨w.heap.size+1+1+1,0,none⟩),.pointer (some ⟨w.heap.size+1+1,0,none⟩),.pointer (some ⟨w.heap.size+1+1+1+1,0,none⟩)],.int .i64 y,undef,undef,undef],defers:=[]})
  ?hassign ?Y0 ?zx ?zy
 case hI=>rintro A B row ⟨h1,h2,c,q⟩ hg hr;have Kn:=D6 c;have C:=Y5 h2 hg (λr e=>by rcases hr r e with rfl|h<;>simp at* <;>omega);have m:=Y5 c hg (λr e=>by rcases hr r e with rfl|h<;>simp at* <;>omega);exact⟨h1.grown hg Ab (λk e=>by rcases hr k e with rfl|h<;>simp at* <;>omega),C.1,m.1,m.2.trans q⟩
 case hIx=>rintro A B row ⟨h1,c⟩ hg hr;have Kn:=D6 c;have m:=Y5 c hg (λr e=>by rcases hr r e with rfl|h<;>simp at* <;>omega);exact⟨h1.grown hg Ab (λk e=>by rcases hr k e with rfl|h<;>simp at* <;>omega),m.1⟩
 case h0=>
  refine⟨(((((Below.refl _ w).alloc (Ae _) _).alloc AH _).alloc EP _).alloc EP _).alloc EP _,?_,?_,?_⟩;.exact CY _ (CY _ (CY _ (CY _ z.1)))
  .exact CY _ (CY _ (CY _ d.1))
  .rw[LI _ (CY _ (CY _ d.1)),LI _ (CY _ d.1),LI _ d.1];exact d.2
 case aE7=>
  intro l J L W hW G F hj;have kk:∀{k j:Nat} {v:Value},(((((w.alloc (.cells #[.int .i64 up] 3)).alloc (.cells #[.bool false] 4)).alloc (.cells #[.pointer (some ⟨ga,0,none⟩)] 59)).alloc (.cells #[.int .i64 x] 3)).alloc (.cells #[.bool true] 4)).cell? ⟨k,j,none⟩=some v->W.cell? ⟨k,j,none⟩=some v:=
   λ{k j v} h=>by rw[CX (hW.block k (D6 h))];exact h
  have hs:rK (w.heap.size+1+1) (w.heap.size+1+1+1+1) ga gn off n cap cs W:=
   ⟨kk (CY _ (CY _ u.1)),kk t.1,kk (CY _ (CY _ (CY _ s))),λh k v h1 h2 c q=>kk (CY _ (CY _ (CY _ (CY _ (CY _ (hx h k v h1 h2 c q))))))⟩
  refine aIT 4 l (w.heap.size+1+1+1) (w.heap.size+1+1) (w.heap.size+1+1+1+1) _ ga gn off n cap cs up J L G F ?_ AH Qn hm W x hs (kk (CY _ i.1)) ?_ (n+1) b hcl hj;.rintro b (rfl|rfl|rfl|rfl)<;>simp<;>omega
  .have:W.frozen? ⟨w.heap.size+1+1+1,0,none⟩=_:=World.frozen?_of_block (hW.block (w.heap.size+1+1+1) AH);rw[this,LI _ i.1];exact i.2
 case hassign=>
  intro l y W K f;have aOj:=Oper.semAt_some l;gi_wp2
  exact f
 case Y0=>
  rintro l y W ⟨hb,Tg,JH,vn⟩;have aOj:=Oper.semAt_some l;gi_wp2
  .rename_i he;obtain rfl:y=up:=eq_of_beq he;exact⟨KeepsOthers.setCell _ _ _,⟨hb.setCell (FD _) _,World.cell?_setCell_same _ _ _ JH⟩,rfl⟩
  .rename_i he;exact⟨KeepsOthers.refl _,Below.refl _ _,⟨hb,Tg,JH,vn⟩,λe=>by subst e;simp at he⟩
 case zx=>
  rintro D W rfl ⟨hb,Tg,JH,vn⟩ f p;gi_wp2
  have g:=(KeepsOthers.setCell W ⟨w.heap.size+1,0,none⟩ (.bool false)).same D _ f rfl;have a:=cell_kept (World.cell?_setCell_same W ⟨w.heap.size+1,0,none⟩ (.bool false) JH) (grownBy_putObj' _ D (.deferred none)) (λr e=>by cases e;exact⟨_,g,rfl⟩);refine⟨AH,.inl ⟨_,_,rfl,run_takeDeferred g,?_⟩⟩;refine⟨.bool false,?_,rfl,(hb.setCell (FD _) _).grown (grownBy_putObj' _ D _) (by have:=D6 JH;simp;omega) (λk e=>by cases e;simp at p;omega)⟩;simp[results,Proofs.Tryz.f236,go_sem,a]
 case zy=>
  rintro D W rfl ⟨hb,JH⟩ f p;gi_wp2
  have a:=cell_kept JH (grownBy_putObj' _ D (.deferred none)) (λr e=>by cases e;exact⟨_,f,rfl⟩);refine⟨AH,.inl ⟨_,_,rfl,run_takeDeferred f,?_⟩⟩;refine⟨.bool true,?_,rfl,hb.grown (grownBy_putObj' _ D _) (by have:=D6 JH;omega) (λk e=>by cases e;simp at p;omega)⟩;simp[results,Proofs.Tryz.f236,go_sem,a]
def Y6(ga:Nat)(p:Option Addr)(n cap:Nat)(up x:Int)(w:World)(hc:w.cell? ⟨ga,0,none⟩=some (.slice p n cap))(ho:¬(1<=up/\up<=n/\1<=x/\x<=n)):
  Calls Proofs.Tryz.prog 236 #[.pointer (some ⟨ga,0,none⟩),.int .i64 up,.int .i64 x] w λe w'=>e= .returned (.bool false)/\Below w.heap.size w w':=by
 have c:((w.alloc (.cells #[.int .i64 up] 3)).alloc (.cells #[.bool false] 4)).cell? ⟨ga,0,none⟩=some (.slice p n cap):=CY _ (CY _ hc);have a:=MJ (w.alloc (.cells #[.int .i64 up] 3)) (.bool false) 4;simp only[World.size_alloc] at a;have hb:Below w.heap.size w ((w.alloc (.cells #[.int .i64 up] 3)).alloc (.cells #[.bool false] 4)):=((Below.refl _ w).alloc (Ae _) _).alloc AH _;refine(callsIn_wide (n:=5)).1 ?_;refine callsIn_of_wp Proofs.Tryz.func236 rfl trivial ?_ rfl;simp only[Proofs.Tryz.ntmps236,Ca,Bn,BP,Nat.reduceAdd,Nat.reduceSub,KV,KW,Nt,LA,BY,CQ];by_cases h1:1<=up/\up<=n
 .have b:decide (1<=up/\up<=n)=true:=As h1;have d:decide (1<=x/\x<=n)=false:=Al λh2=>ho ⟨h1.1,h1.2,h2.1,h2.2⟩;gi_wp2
  refine⟨trivial,(callsIn_wide.2 (eI ga _ n cap up _ c)).mono ?_⟩;rintro e w' ⟨rfl,rfl⟩;rw[b];gi_wp2
  refine⟨trivial,(callsIn_wide.2 (eI ga _ n cap x _ c)).mono ?_⟩;rintro e w' ⟨rfl,rfl⟩;rw[d];gi_wp2
  refine bodyPost_ret (v:= .bool false) ?_ rfl ⟨rfl,hb⟩;simp[results,Proofs.Tryz.f236,go_sem,a.1]
 .have b:decide (1<=up/\up<=n)=false:=Al h1;gi_wp2
  refine⟨trivial,(callsIn_wide.2 (eI ga _ n cap up _ c)).mono ?_⟩;rintro e w' ⟨rfl,rfl⟩;rw[b];gi_wp2
  refine⟨trivial,?_⟩;gi_wp2
  refine bodyPost_ret (v:= .bool false) ?_ rfl ⟨rfl,hb⟩;simp[results,Proofs.Tryz.f236,go_sem,a.1]
section
variable{h:Ah}
def iQ{cs:List Aa}{off:Nat}{x:Int}{k:Nat}{v:Int}(e:Hs cs off x k=some v):cs[off+(x.toNat-1)*13+k]?=some (.int .i64 v):=by
 unfold Hs at e;split at e;.rename_i a;cases e;exact a
 .cases e
def Ű(n:Nat)(args:List Aa)(r:Aa)(h':Ah)(Bb:IT.step (B8 cx) (IT.run (B8 cx) n) (Oo args) h=some (.ret,[r],h')):
  (∃fn c,cx.P.funcs[E0 236]?=some fn/\(fn.name== "runtime.NumGoroutine")=false/\fn.body=some c)/\
  ∀(U:Gh) (w:World) (cargs:Array Value),HK U h w->(∀g cs,cx.HO g=some cs->Df U cs g 0)->Bp U args cargs.toList->
   Calls cx.P (E0 236) cargs w λe w'=>match e with
    | .returned v=>∃d,HK d h' w'/\LQ U w d w'/\BT d r v/\(cx.JM 236=true->∃s c,Jp d w.heap.size w' s c v r)
    |_=>False:=by
 refine⟨⟨_,_,Proofs.Tryz.func236,rfl,rfl⟩,λU w cargs hi hg ha=>?_⟩;simp only[Oo,IT.step,EF] at Bb;cases e0:On h args with
 |none=>simp[e0] at Bb
 |some H=>
 obtain⟨h1,J⟩:=H;simp only[e0] at Bb;cases Bb;have He:∀(b:Bool) (cs:Array Value),h'=h->r= .bool b->Calls Proofs.Tryz.prog 236 cs w (λe w'=>e= .returned (.bool b)/\Below w.heap.size w w')->
   Calls cx.P (E0 236) cs w λe w'=>match e with
    | .returned v=>∃d,HK d h' w'/\LQ U w d w'/\BT d r v/\(cx.JM 236=true->∃s c,Jp d w.heap.size w' s c v r)
    |_=>False:=by
  rintro b cs rfl rfl hc;refine hc.mono λe w' he=>?_;obtain⟨rfl,hb⟩:=he;obtain⟨Xz,PV⟩:=hi.LW hb;exact⟨U,Xz,PV,rfl,λe=>by cases e⟩
 unfold On at e0;split at e0
 .rename_i id up x;obtain⟨v0,us,o,⟨g,hm,rfl⟩,I,q,rfl,rfl,v2,wD,rfl,rfl,hnil⟩:=ha;cases hnil;have a:cargs=#[.pointer (some ⟨g,0,none⟩),.int .i64 up,.int .i64 x]:=by apply HW;simpa using o
  subst a;split at e0;.rename_i l hc;cases e0;obtain⟨_,y,hy,A⟩:=hi.TN hc hm (j:=0) rfl;cases A;exact He false _ rfl rfl (Y6 g none 0 0 up x w hy Ab)
  .rename_i F off len l hc;split at e0
   .rename_i cs hcs;split at e0
    .rename_i hl;obtain⟨_,y,hy,gn,cap,f,rfl,D,⟨K,C⟩,B⟩:=hi.TN hc hm (j:=0) rfl;have m:g<w.heap.size:=D6 hy;have i:gn<w.heap.size:=by obtain⟨⟨us,e,fr,E,L⟩,_⟩:=hi.sz gn _ B;exact(Bc.1 E).1
     split at e0
     .rename_i hr;cases p:Mn cs off len up (len+1) x with
      |none=>simp[p] at e0
      |some b=>simp only[p,B6,BF,J4] at e0;obtain⟨rfl,rfl⟩:=e0;refine He b _ rfl rfl (aE8 g gn off len cap cs up x w m i D C hy (λt k v h1 h2 M G=>?_) b p hr.1 hr.2.1 hr.2.2.1 hr.2.2.2);obtain⟨_,z,hz,u⟩:=hi.TN hcs f (iQ G);cases u;exact hz
     .rename_i hr;cases e0;exact He false _ rfl rfl (Y6 g _ len cap up x w hy hr)
    .cases e0
   .cases e0
  .cases e0
 .cases e0
end
def PK{T e:TypeId}{B b:Nat}{bs:List Value}{W W':World}(h:Lib.IsBuilder T e B b bs W)(hb:Below W.heap.size W W'):Lib.IsBuilder T e B b bs W':=by
 have key:∀p,Lib.BuilderAt T e B b p bs W->Lib.BuilderAt T e B b p bs W':=λp ⟨hB,v,ō,Gf,hne⟩=>by refine⟨hB,v,(hb.block b (Bc.1 ō).1).trans ō,?_,hne⟩;exact Gf.kept (row:=none) ⟨hb.os,hb.tape,hb.output,hb.size,λk hk _=>hb.block k hk⟩ (Classical.em _)
 exact h.imp (key _) (key _)
def Ln(a b:List UInt8):Lib.byteCells (a++b)=Lib.byteCells a++Lib.byteCells b:=by simp[Lib.byteCells]
def byteCells_length(a:List UInt8):(Lib.byteCells a).length=a.length:=by simp[Lib.byteCells]
def xQ(d:Nat):Lib.repeatL [32,32] d=List.replicate (2*d) 32:=by
 induction d with
 |zero=>rfl
 |succ d ih=>rw[Lib.repeatL,ih,(Ab:2*(d+1)=2*d+1+1),Lx,Lx];rfl
def xR:∀a:Aa,a.Nv=true->a.still=true
 | .bool _,_=>rfl
 | .int _ _,_=>rfl
 | .str _,_=>rfl
 |a,h=>by cases a<;>first|rfl|simp[Aa.Nv] at h
def Wg:∀l:List Aa,l.all Aa.Nv=true->Ka l=true
 |[],_=>rfl
 |a::l,h=>by simp only[gN,Bq] at h;simp only[Ka,Bq];exact⟨xR a h.1,Wg l h.2⟩
section
variable{U:Gh}{h:Ah}{w:World}
def rL(hi:HK U h w){id g:Nat}{cs:List Aa}(hc:h[id]?=some (.cells cs))(hm:U.mu id=some g):∀(n o:Nat),o+n<=cs.length->NI (CD cs 1 o n)=true->
  (CD cs 1 o n).length=n/\FZ (GW w) (CD cs 1 o n) 1 g o
 |0,o,_,_=>⟨rfl,trivial⟩
 |n+1,o,hl,hs=>by
  have hlt:o<cs.length:=Ab;have a:(cs.drop o).take 1=[cs[o]]:=by rw[AG hlt];rfl
  have dG:Ka ((cs.drop o).take 1)=true/\NI (CD cs 1 (o+1) n)=true:=by simpa only[CD,NI,Bq] using hs
  obtain⟨p,q⟩:=rL hi hc hm n (o+1) Ab dG.2;rw[a] at dG;have Ia:cs[o].still=true:=by simpa[Ka] using dG.1
  obtain⟨u,hu,h1,hr⟩:=Ot hi hc hm (An hlt);refine⟨by simp[CD,p],?_⟩;simp only[CD,a];exact⟨rfl,⟨⟨u,Vd hu h1,BT.mem hi _ _ Ia hr⟩,trivial⟩,q⟩
def iR(w:World)(b o:Nat)(Be:List (List Aa)):Prop:=
 ∃v,w.cell? ⟨b,o,none⟩=some v/\((v= .slice none 0 0/\Be=[])\/
  (∃a c cap,v= .slice (some ⟨a,c,none⟩) Be.length cap/\Be.length<=cap/\cap<=maxLen/\a<w.heap.size/\FZ (GW w) Be 1 a c))
def z_(hi:HK U h w){id g:Nat}(hm:U.mu id=some g){x:Int}{h1:Ah}{r:Aa}(e:ql h [.ptr (some (id,0)),.int .i64 x]=some (h1,r)):
  h1=h/\∃gn off n cap row c Be,r= .tuple [.CH row,.int .i64 c,.sl 1 Be]/\g<w.heap.size/\gn<w.heap.size/\w.cell? ⟨g,0,none⟩=some (.slice (some ⟨gn,off,none⟩) n cap)/\n<=cap/\cap<=maxLen/\
   1<=x/\x<=n/\Df (GW w) row gn (off+(x.toNat-1)*13)/\w.cell? ⟨gn,off+(x.toNat-1)*13+11,none⟩=some (.int .i64 c)/\iR w gn (off+(x.toNat-1)*13+2) Be:=by
 unfold ql at e;split at e
 .rename_i Gv x' NB;cases NB;split at e
  .rename_i Z off n l hc;split at e
   .rename_i cs hcs;split at e
    .rename_i hx;split at e
     .rename_i C B I A z v t s q p SM c fq hrow;split at e
      .rename_i Ia;simp only[Ka,Bq,Np] at Ia;obtain⟨s0,T,S,R,Q,P,O,N,M,E,D⟩:=Ia;obtain⟨_,y,hy,gn,cap,d,rfl,L,⟨q2,K⟩,X⟩:=hi.TN hc hm (j:=0) rfl;have f:gn<w.heap.size:=by obtain⟨⟨us,e,fr,F,Y⟩,_⟩:=hi.sz gn _ X;exact(Bc.1 F).1
       have get:∀(j:Nat) (a:Aa),j<13->[C,B,I,A,z,v,t,s,q,p,SM,.int .i64 c,fq][j]?=some a->cs[off+(x.toNat-1)*13+j]?=some a:=λj a hj ha=>by rw[<-hrow,DS hj,Cu] at ha;exact ha
       have key:∀(j:Nat) (a:Aa),j<13->[C,B,I,A,z,v,t,s,q,p,SM,.int .i64 c,fq][j]?=some a->a.still=true->∃u,(GW w).IZ gn (off+(x.toNat-1)*13+j)=some u/\BT (GW w) a u:=λj a hj ha hs=>by obtain⟨u,hu,ho,hr⟩:=Ot hi hcs d (get j a hj ha);exact⟨u,Vd hu ho,BT.mem hi _ _ hs hr⟩
       have TO:w.cell? ⟨gn,off+(x.toNat-1)*13+11,none⟩=some (.int .i64 c):=by obtain⟨u,hu,_,hr⟩:=Ot hi hcs d (get 11 _ Ab rfl);cases hr;exact hu
       obtain⟨u2,Ja,bX,LU⟩:=Ot hi hcs d (get 2 I Ab rfl);have mk:∀(G:Aa),(∃u,(GW w).IZ gn (off+(x.toNat-1)*13+2)=some u/\BT (GW w) G u)->Df (GW w) [C,B,G,A,z,v,t,s,q,p,SM,.int .i64 c,fq] gn (off+(x.toNat-1)*13):=λG h2=>⟨key 0 C Ab rfl s0,key 1 B Ab rfl T,h2,key 3 A Ab rfl S,key 4 z Ab rfl R,key 5 v Ab rfl Q,key 6 t Ab rfl P,key 7 s Ab rfl O,key 8 q Ab rfl N,key 9 p Ab rfl M,key 10 SM Ab rfl E,key 11 _ Ab rfl rfl,key 12 fq Ab rfl D,trivial⟩
       have hg:=D6 hy;split at e;.cases e;cases LU;exact⟨rfl,gn,off,n,cap,_,c,[],rfl,hg,f,hy,L,K,hx.1,hx.2.1,mk _ ⟨_,Vd Ja bX,rfl⟩,TO,_,Ja,.inl ⟨rfl,rfl⟩⟩
       .rename_i NJ k m;split at e
        .rename_i ks ř;split at e
         .rename_i hk;cases e;obtain⟨o,b,qt,rfl,J,⟨r2,W⟩,V⟩:=LU;obtain⟨i,t2⟩:=rL hi ř qt m k Ab hk.2;have H:o<w.heap.size:=by obtain⟨⟨us,e,fr,F,Y⟩,_⟩:=hi.sz o _ V;exact(Bc.1 F).1
          refine⟨rfl,gn,off,n,cap,_,c,CD ks 1 k m,rfl,hg,f,hy,L,K,hx.1,hx.2.1,mk _ ⟨_,Vd Ja bX,⟨o,k,none⟩,b,by rw[i],by rw[i];exact J,.inl rfl,t2⟩,TO,_,Ja,.inr ⟨o,k,b,by rw[i],by rw[i];exact J,W,H,t2⟩⟩
         .cases e
        .cases e
       .cases e
      .cases e
     .cases e
    .cases e
   .cases e
  .cases e
 .cases e
def ű{n:Nat}(hs:FB cx (IT.run (B8 cx) n))(hi:HK U h w)(hg:∀g cs,cx.HO g=some cs->Df U cs g 0){row:List Aa}{s:Ai}{h1:Ah}(e:IT.run (B8 cx) n (B8 cx 155 [.CH row]) []=some (.ret,[.str s],h1))
  {W:World} (hb:Below w.heap.size w W) {gn o:Nat} (hr:Df (GW w) row gn o):
  Calls Proofs.Tryz.prog 155 #[.pointer (some ⟨gn,o,none⟩)] W λe W'=>e= .returned (.string ⟨⟨s⟩⟩)/\Below W.heap.size W W':=by
 refine((hs.2 155 _ _ _ _ e).2 (GW W) W #[.pointer (some ⟨gn,o,none⟩)] (zp W) (λg cs a=>Df.mono (rG hb) cs g 0 (Df.mem hi cs g 0 (Wg cs (hs.1.1 g cs a)) (hg g cs a)))
  ⟨_,_,rfl,⟨gn,o,rfl,Df.mono (rG hb) row gn o hr⟩,rfl⟩).mono λe W' he=>?_
 cases e with
 |returned v=>obtain⟨b,_,ha,hv,_⟩:=he;cases hv;exact⟨rfl,ha.os,ha.tape,ha.output,ha.size,λk hk=>(ha.OV k hk (λid=>by simp[GW])).1⟩
 |_=>exact he.elim
end
def Ų{w:World}{b o:Nat}{Be:List (List Aa)}(h:iR w b o Be):∃p cap,w.cell? ⟨b,o,none⟩=some (.slice p Be.length cap)/\Be.length<=cap/\cap<=maxLen/\
  ∀(i:Nat) (y:Int),Be[i]?=some [.int .i64 y]->∃a c,p=some ⟨a,c,none⟩/\a<w.heap.size/\w.cell? ⟨a,c+i,none⟩=some (.int .i64 y):=by
 obtain⟨v,hv,⟨rfl,rfl⟩|⟨a,c,cap,rfl,h1,h2,e,d⟩⟩:=h;.exact⟨none,0,hv,Ae _,Bf,λi y hi=>by simp at hi⟩
 .refine⟨_,cap,hv,h1,h2,λi y hi=>⟨a,c,rfl,e,?_⟩⟩;obtain⟨_,⟨u,hu,hr⟩,_⟩:=FZ.get d hi;cases hr;have:=hu;simp only[GW,RT] at this;simpa using this.1
def rM(l:List UInt8):Lib.strCells ⟨l.toArray⟩=Lib.byteCells l:=by simp[Lib.strCells,Lib.byteCells]
def iS(l:List UInt8):Lib.strCells ⟨⟨l⟩⟩=Lib.byteCells l:=by simp[Lib.strCells,Lib.byteCells]
def xS(i n:Nat)(h:i<n)(hn:n<=9223372036854775807):wrap64 ((i:Int)+1)=((i+1:Nat):Int):=by rw[Go.IntWalk.wrap64_in _ ⟨Ab,Ab⟩];omega
def eJ(d:Nat)(h:d<=1000):wrap64 ((d:Int)+1)=((d+1:Nat):Int):=by rw[Go.IntWalk.wrap64_in _ ⟨Ab,Ab⟩];omega
abbrev vw(g:Nat)(w0:World)(x:Int)(d:Nat)(Ed SN:Ai):Prop:=
 ∀(B b:Nat) (W:World),w0.heap.size<=B->B<=W.heap.size->Below w0.heap.size w0 W->Lib.IsBuilder 98 5 B b (Lib.byteCells Ed) W->
  Calls Proofs.Tryz.prog 54 #[.pointer (some ⟨g,0,none⟩),.pointer (some ⟨b,0,none⟩),.int .i64 x,.int .i64 d] W λe W'=>(∃v,e= .returned v)/\Lib.IsBuilder 98 5 B b (Lib.byteCells SN) W'/\Below B W W'
def qu{p:Prop}(h:p):Hid p:=h
def MV{w0 W':World}{k j:Nat}{v:Value}(hb:Below w0.heap.size w0 W')(h:w0.cell? ⟨k,j,none⟩=some v):W'.cell? ⟨k,j,none⟩=some v:=by rw[CX (hb.block k (D6 h))];exact h
def xT:Code->Code
 | .seq _ c=>xT c
 | .block _ c=>c
 |c=>c
noncomputable def A_:Code:=match Proofs.Tryz.f54.body with
 |some c=>xT c
 |none=> .skip
def B_{w0 W W6:World}{g B b d a:Nat}{p:Option Addr}{Be:List (List Aa)}(hB:w0.heap.size<=B)(h:B<=W.heap.size)(hb:Below w0.heap.size w0 W)(hd:d<=1000)
  (bL:Be.length<=a) (vU:a<=maxLen) (ů:∀(i:Nat) (y:Int),Be[i]?=some [.int .i64 y]->∃l ko,p=some ⟨l,ko,none⟩/\l<w0.heap.size/\w0.cell? ⟨l,ko+i,none⟩=some (.int .i64 y))
  (f:Nat->Ai) (hf:∀i,i<Be.length->∃y,Be[i]?=some [.int .i64 y]/\vw g w0 y (d+1) (f i) (f (i+1))) (j:Below B W W6) (l6:Lib.IsBuilder 98 5 B b (Lib.byteCells (f 0)) W6)
  (z2 z4 z5 z6 z7 z8 z9 z10 z11 z12 z13 z14 Z z16 Y X V z20 U z22 T S R Q P O N M L K J I H G z37 F E D C A z x w u t z51 s z53 r q o n m:Value):
  A_.wpIn Fence.wide 5 Proofs.Tryz.prog (Exit.inBlock 0<|bodyPost Proofs.Tryz.prog Proofs.Tryz.f54 λe W'=>(∃v,e= .returned v)/\Lib.IsBuilder 98 5 B b (Lib.byteCells (f Be.length)) W'/\Below B W W')
   {tmps:=#[.pointer (some ⟨g,0,none⟩),.pointer (some ⟨b,0,none⟩),z2,.int .i64 d,z4,z5,z6,z7,z8,z9,z10,z11,z12,z13,z14,Z,z16,Y,X,V,z20,U,z22,T,S,R,Q,P,O,N,M,L,K,J,I,H,G,z37,F,E,D,C,A,z,x,w,.slice p Be.length a,.int .i64 Be.length,.int .i64 0,u,t,z51,s,z53,r,q,o,n,m],defers:=[]} W6:=by
 simp only[A_,xT,Proofs.Tryz.f54];gi_loopg [48] Be.length (λk v wr=>∃i,i<=Be.length/\k=Be.length-i/\v= .int .i64 (i:Nat)/\Below B W wr/\Lib.IsBuilder 98 5 B b (Lib.byteCells (f i)) wr)
 case atStart=>exact⟨0,AV _,rfl,rfl,j,l6⟩
 case round=>
  obtain⟨i,hi,rfl,rfl,bbi,li⟩:=hrel;by_cases hlt:i<Be.length
  .obtain⟨y,hy,aDl⟩:=hf i hlt;obtain⟨l,ko,rfl,hgk,Km⟩:=ů i y hy;have c:Below w0.heap.size w0 wr:=hb.trans (bbi.mono hB);have ci:=MV c Km;have aUM:(i:Int)<(Be.length:Int):=by exact_mod_cast hlt
   have hwi:=xS i _ hlt (Bv bL vU);have hwd:=eJ d hd;have Xx:=aDl B b _ hB (Bv h bbi.size) c li;clear aDl hf ů bL vU c li l6 j Km hy hgk hB h hb;rw[show((d+1:Nat):Int)=(d:Int)+1 from rfl] at Xx;gi_wp2
   refine⟨trivial,(callsIn_wide.2 Xx).mono ?_⟩;rintro e W7 ⟨⟨v,rfl⟩,l7,b7⟩;gi_wp2
   gi_roundg (Be.length-(i+1))
   case measure=>exact Nat.sub_lt_sub_left hlt (N9 i)
   case rel=>refine⟨i+1,hlt,rfl,?_,bbi.trans b7,l7⟩;first|rfl|exact Cj (Value.int .i64) hwi
  .obtain rfl:i=Be.length:=Nat.le_antisymm hi (Nat.le_of_not_lt hlt);gi_wp2
   go_end0
   exact⟨⟨_,rfl⟩,li,bbi⟩
def aFa{w0:World}{g gn off n cap:Nat}{c x:Int}{Be:List (List Aa)}(U:g<w0.heap.size)(V:gn<w0.heap.size)(hc:w0.cell? ⟨g,0,none⟩=some (.slice (some ⟨gn,off,none⟩) n cap))(Qn:n<=cap)(hm:cap<=maxLen)
  (PY:1<=x) (iP:x<=n) (iT:w0.cell? ⟨gn,off+(x.toNat-1)*13+11,none⟩=some (.int .i64 c)) (hk:iR w0 gn (off+(x.toNat-1)*13+2) Be)
  {d:Nat} (hd:d<=1000) {Ed j s:Ai}
  (f_:∀W,Below w0.heap.size w0 W->Calls Proofs.Tryz.prog 155 #[.pointer (some ⟨gn,off+(x.toNat-1)*13,none⟩)] W λe W'=>e= .returned (.string ⟨⟨s⟩⟩)/\Below W.heap.size W W')
  (hlen:(Ed++List.replicate (2*d) 32++s++[10]).length<=A0)
  (gd:(c=0/\j=Ed++List.replicate (2*d) 32++s++[10])\/(c≠0/\vw g w0 c (d+1) (Ed++List.replicate (2*d) 32++s++[10]) j))
  (f:Nat->Ai) (vS:f 0=j) (hf:∀i,i<Be.length->∃y,Be[i]?=some [.int .i64 y]/\vw g w0 y (d+1) (f i) (f (i+1))):
  vw g w0 x d Ed (f Be.length):=by
 intro B b W hB a hb G;obtain⟨p,P,bQ,bL,vU,ů⟩:=Ų hk;have h:A0=140737488355328:=rfl;simp only[Aw,Gu,Bn,BP] at hlen;have O:2*d<=140737488355328:=by rw[h] at hlen;omega
 have N:(Lib.byteCells Ed).length+(⟨(List.replicate (2*d) (32:UInt8)).toArray⟩:ByteArray).size<=140737488355328:=by rw[h] at hlen;rw[byteCells_length];simp only[ByteArray.size,Ca,Gu];omega
 have M:(Lib.byteCells (Ed++List.replicate (2*d) 32)).length+(⟨⟨s⟩⟩:ByteArray).size<=140737488355328:=by rw[h] at hlen;rw[byteCells_length];simp only[ByteArray.size,Aw,Gu];show _+s.length<=_;omega
 have L:(Lib.byteCells (Ed++List.replicate (2*d) 32++s)).length+1<=140737488355328:=by rw[h] at hlen;rw[byteCells_length];simp only[Aw,Gu];omega
 have K:d<=9223372036854775807:=Bv hd Bf;clear hlen h;have Hline:=qu f_;have o:=qu gd;have S:=qu hf;have w:=qu ů;have A:=qu bL;have z:=qu vU;clear f_ gd hf ů hk bL vU;refine(callsIn_wide (n:=5)).1 ?_;refine callsIn_of_wp Proofs.Tryz.func54 rfl trivial ?_ rfl;simp only[Proofs.Tryz.ntmps54,Ca,Bn,BP,Nat.reduceAdd,Nat.reduceSub,KV,KW,Nt,LA,BY,CQ];gi_wp2
 refine⟨trivial,(callsIn_wide.2 (aIR g gn off n cap x _ (MV hb hc) PY iP Qn hm)).mono ?_⟩;rintro e w' ⟨rfl,rfl⟩;gi_wp2
 refine⟨trivial,(callsIn_wide.2 (Proofs.Tryz.strings_Repeat ⟨#[32,32]⟩ d _ K O)).mono ?_⟩;rintro e W1 ⟨rfl,b1⟩;have UP:Below w0.heap.size w0 W1:=hb.trans (b1.mono hb.size);have u:Below B W W1:=b1.mono a;have l1:=PK G b1;have hr:(Lib.repeatL (⟨#[32,32]⟩:ByteArray).data.toList d)=List.replicate (2*d) 32:=xQ d;rw[hr];gi_wp2
 refine⟨trivial,(callsIn_wide.2 (Proofs.Tryz.Builder_WriteString B b (Lib.byteCells Ed) _ _ l1 N (Bv a u.size))).mono ?_⟩;rintro e Z ⟨rfl,E,b2⟩;rw[rM,<-Ln] at E;have t:=u.trans b2;have PL:Below w0.heap.size w0 Z:=UP.trans (b2.mono hB);gi_wp2
 refine⟨trivial,(callsIn_wide.2 (Hline.out _ PL)).mono ?_⟩;rintro e W3 ⟨rfl,b3⟩;have vy:Below w0.heap.size w0 W3:=PL.trans (b3.mono PL.size);have r:Below B W W3:=t.trans (b3.mono (Bv a t.size));have l3:=PK (.inr E) b3;gi_wp2
 refine⟨trivial,(callsIn_wide.2 (Proofs.Tryz.Builder_WriteString B b _ _ _ l3 M (Bv a r.size))).mono ?_⟩;rintro e Y ⟨rfl,l4,b4⟩;rw[iS,<-Ln] at l4;have q:=r.trans b4;have I:Below w0.heap.size w0 Y:=vy.trans (b4.mono hB);gi_wp2
 refine⟨trivial,(callsIn_wide.2 (Proofs.Tryz.Builder_WriteByte B b _ 10 _ (.inr l4) L (Bv a q.size))).mono ?_⟩;rintro e R ⟨rfl,C,b5⟩;have J:Lib.byteCells (Ed++List.replicate (2*d) 32++s)++[Value.int .u8 10]=Lib.byteCells (Ed++List.replicate (2*d) 32++s++[10]):=by rw[Ln (Ed++List.replicate (2*d) 32++s) [10]];rfl
 replace C:=J▸C;have m:=q.trans b5;have k:Below w0.heap.size w0 R:=I.trans (b5.mono hB);have c5:=MV k iT;clear Qn hm PY iP hc O N M L K l1 l3 l4 E;rcases o.out with⟨rfl,rfl⟩|⟨F,C_⟩
 .have l:=m;have l6:Lib.IsBuilder 98 5 B b (Lib.byteCells (f 0)) R:=by rw[vS];exact .inr C
  have X:=MV k bQ;gi_wp2
  exact B_ hB a hb hd A.out z.out w.out f S.out l l6 _ _ _ _ _ _ _ _ _ _ _ _ _ _ _ _ _ _ _ _ _ _ _ _ _ _ _ _ _ _ _ _ _ _ _ _ _ _ _ _ _ _ _ _ _ _ _ _ _ _ _ _ _
 .have hne:(c != 0)=true:=by simp[F]
  have T:=eJ d hd;have aIU:=C_ B b _ hB (Bv a m.size) k (.inr C);rw[show((d+1:Nat):Int)=(d:Int)+1 from rfl] at aIU;gi_wp2
  refine⟨trivial,(callsIn_wide.2 aIU).mono ?_⟩;rintro e Q ⟨⟨v,rfl⟩,D,b6⟩;have l:=m.trans b6;have H:Below w0.heap.size w0 Q:=k.trans (b6.mono hB);have l6:Lib.IsBuilder 98 5 B b (Lib.byteCells (f 0)) Q:=by rw[vS];exact D
  have X:=MV H bQ;gi_wp2
  exact B_ hB a hb hd A.out z.out w.out f S.out l l6 _ _ _ _ _ _ _ _ _ _ _ _ _ _ _ _ _ _ _ _ _ _ _ _ _ _ _ _ _ _ _ _ _ _ _ _ _ _ _ _ _ _ _ _ _ _ _ _ _ _ _ _ _
section
variable{U:Gh}{h:Ah}{w0:World}
abbrev aFc(fuel d:Nat)(a:Aa):List Aa->(Ai->IT)->Ai->IT:=λNJ K Ed=>match NJ with
 |[.int .i64 y]=>It 155 a fuel y (d+1) Ed K
 |_=> .fail
def rN{run:IT->Ah->Option Kz}{g fuel d:Nat}{a:Aa}(ih:∀(x:Int) (Ed:Ai) (k:Ai->IT) (res:Kz),IT.step (B8 cx) run (It 155 a fuel x (d+1) Ed k) h=some res->∃SN,IT.step (B8 cx) run (k SN) h=some res/\vw g w0 x (d+1) Ed SN):
  ∀(Be:List (List Aa)) (Ed:Ai) (k:Ai->IT) (res:Kz),IT.step (B8 cx) run (Be.foldr (aFc fuel d a) k Ed) h=some res->
   ∃f:Nat->Ai,f 0=Ed/\IT.step (B8 cx) run (k (f Be.length)) h=some res/\∀i,i<Be.length->∃y,Be[i]?=some [.int .i64 y]/\vw g w0 y (d+1) (f i) (f (i+1))
 |[],Ed,k,res,e=>⟨λ_=>Ed,rfl,e,λi hi=>by simp at hi⟩
 |NJ::Be,Ed,k,res,e=>by
  simp only[List.foldr_cons] at e;unfold aFc at e;split at e
  .rename_i y;obtain⟨b,j,l⟩:=ih _ _ _ _ e;obtain⟨f,f0,f1,f2⟩:=rN ih Be b k res j;refine⟨λ|0=>Ed|i+1=>f i,rfl,f1,λi hi=>?_⟩;cases i with
   |zero=>
    have hc:vw g w0 y (d+1) Ed (f 0):=by rw[f0];exact l
    exact⟨y,rfl,hc⟩
   |succ i=>obtain⟨c,p,q⟩:=f2 i (by simpa using hi);exact⟨c,by simpa using p,q⟩
  .cases e
def D_{run:IT->Ah->Option Kz}{a:Aa}{x:Int}{d:Nat}{Ed:Ai}{k:Ai->IT}{res:Kz}(fuel:Nat)(e:IT.step (B8 cx) run (It 155 a fuel x d Ed k) h=some res):∃id,a= .ptr (some (id,0)):=by
 cases fuel with
 |zero=>simp[It,IT.step] at e
 |succ fuel=>
  simp only[It,IT.step,EF] at e;cases e0:ql h [a,.int .i64 x] with
  |none=>simp[e0] at e
  |some b=>
   unfold ql at e0;split at e0;.rename_i id x' NB;cases NB;exact⟨id,rfl⟩
   .cases e0
def rO{n:Nat}(hs:FB cx (IT.run (B8 cx) n))(hi:HK U h w0)(hg:∀g cs,cx.HO g=some cs->Df U cs g 0){id g:Nat}(hm:U.mu id=some g):
  ∀(fuel:Nat) (x:Int) (d:Nat) (Ed:Ai) (k:Ai->IT) (res:Kz),d+fuel<=1000->IT.step (B8 cx) (IT.run (B8 cx) n) (It 155 (.ptr (some (id,0))) fuel x d Ed k) h=some res->
   ∃SN,IT.step (B8 cx) (IT.run (B8 cx) n) (k SN) h=some res/\vw g w0 x d Ed SN/\∃p cap ln,w0.cell? ⟨g,0,none⟩=some (.slice p ln cap)/\1<=x/\x<=ln
 |0,x,d,Ed,k,res,_,e=>by simp[It,IT.step] at e
 |fuel+1,x,d,Ed,k,res,hd,e=>by
  simp only[It,IT.step,EF] at e;cases e0:ql h [.ptr (some (id,0)),.int .i64 x] with
  |none=>simp[e0] at e
  |some u=>
  obtain⟨h1,r⟩:=u;simp only[e0] at e;obtain⟨m,gn,off,w,cap,row,c,Be,rfl,i,j,hc,Qn,cF,PY,iP,hrow,iT,hk⟩:=z_ hi hm e0;simp only[IT.step] at e;rw[m] at e;clear m;cases l:IT.run (B8 cx) n (B8 cx 155 [.CH row]) [] with
  |none=>simp[l] at e
  |some y=>
  simp only[l] at e;split at e
  .rename_i v o NB;cases NB;split at e
   .split at e
    .rename_i s HB;split at e
     .rename_i hlen;have ih:∀(x:Int) (Ed:Ai) (k:Ai->IT) (res:Kz),IT.step (B8 cx) (IT.run (B8 cx) n) (It 155 (.ptr (some (id,0))) fuel x (d+1) Ed k) h=some res->∃SN,IT.step (B8 cx) (IT.run (B8 cx) n) (k SN) h=some res/\vw g w0 x (d+1) Ed SN:=λx Ed k res e=>by obtain⟨SN,p,q,_⟩:=rO hs hi hg hm fuel x (d+1) Ed k res Ab e;exact⟨SN,p,q⟩
      have f_:∀W,Below w0.heap.size w0 W->Calls Proofs.Tryz.prog 155 #[.pointer (some ⟨gn,off+(x.toNat-1)*13,none⟩)] W λe W'=>e= .returned (.string ⟨⟨s⟩⟩)/\Below W.heap.size W W':=
       λW hb=>ű hs hi hg l hb hrow
      have He:∀a,((c=0/\a=Ed++List.replicate (2*d) 32++s++[10])\/(c≠0/\vw g w0 c (d+1) (Ed++List.replicate (2*d) 32++s++[10]) a))->
        IT.step (B8 cx) (IT.run (B8 cx) n) (Be.foldr (aFc fuel d (.ptr (some (id,0)))) k a) h=some res->∃SN,IT.step (B8 cx) (IT.run (B8 cx) n) (k SN) h=some res/\vw g w0 x d Ed SN/\∃p cap ln,w0.cell? ⟨g,0,none⟩=some (.slice p ln cap)/\1<=x/\x<=ln:=by
       intro a gd t;obtain⟨f,f0,f1,f2⟩:=rN ih Be a k res t;exact⟨f Be.length,f1,aFa i j hc Qn cF PY iP iT hk Ab f_ hlen gd f f0 f2,_,_,_,hc,PY,iP⟩
      split at e;.rename_i b;exact He _ (.inl ⟨b,rfl⟩) e
      .rename_i b;obtain⟨a,p,q⟩:=ih _ _ _ _ e;exact He a (.inr ⟨b,q⟩) p
     .cases e
    .cases e
   .cases e
  .cases e
end
def aFd{w0:World}{g ln cap:Nat}{p:Option Addr}{x:Int}{s:Ai}(b:g<w0.heap.size)(hc:w0.cell? ⟨g,0,none⟩=some (.slice p ln cap))(PY:1<=x)(iP:x<=ln)(C_:vw g w0 x 0 [] s):
  Calls Proofs.Tryz.prog 20 #[.pointer (some ⟨g,0,none⟩),.int .i64 x] w0 λe w'=>e= .returned (.string ⟨⟨s⟩⟩)/\Below w0.heap.size w0 w':=by
 have c:decide (1<=x/\x<=ln)=true:=As ⟨PY,iP⟩;have aOp:(w0.alloc (.cells #[.pointer none,.slice none 0 0] 98)).heap[w0.heap.size]?=some (.cells #[.pointer none,.slice none 0 0] 98 (0,0)):=World.alloc_heap_new w0 _;have UP:Below w0.heap.size w0 (w0.alloc (.cells #[.pointer none,.slice none 0 0] 98)):=(Below.refl _ w0).alloc (Ae _) _;have l1:Lib.IsBuilder 98 5 w0.heap.size w0.heap.size (Lib.byteCells []) (w0.alloc (.cells #[.pointer none,.slice none 0 0] 98)):=
  .inl ⟨Ae _,.slice none 0 0,aOp,World.ownsRow_nil _ _ _ _,by simp[Value.ownBlock]⟩
 have Xx:=C_ w0.heap.size w0.heap.size _ (Ae _) AH UP l1;rw[show((0:Nat):Int)=0 from rfl] at Xx;refine(callsIn_wide (n:=5)).1 ?_;refine callsIn_of_wp Proofs.Tryz.func20 rfl trivial ?_ rfl;simp only[Proofs.Tryz.ntmps20,Ca,Bn,BP,Nat.reduceAdd,Nat.reduceSub,KV,KW,Nt,LA,BY,CQ];gi_wp2
 refine⟨trivial,(callsIn_wide.2 (eI g _ ln cap x _ hc)).mono ?_⟩;rintro e w' ⟨rfl,rfl⟩;rw[c];gi_wp2
 refine⟨trivial,(callsIn_wide.2 Xx).mono ?_⟩;rintro e d ⟨⟨v,rfl⟩,a,b2⟩;gi_wp2
 refine⟨trivial,(callsIn_wide.2 (Proofs.Tryz.Builder_String_any w0.heap.size w0.heap.size s _ a (by have:=b2.size;have:=UP.size;omega))).mono ?_⟩;rintro e W3 ⟨rfl,b3⟩;gi_wp2
 refine bodyPost_ret (results_tmp rfl _ _ _) rfl ?_;exact⟨rfl,(UP.trans b2).trans b3⟩
def aFe{h:Ah}(n:Nat)(hs:FB cx (IT.run (B8 cx) n))(args:List Aa)(r:Aa)(h':Ah)(Bb:IT.step (B8 cx) (IT.run (B8 cx) n) (fu 155 args) h=some (.ret,[r],h')):
  (∃fn c,cx.P.funcs[E0 20]?=some fn/\(fn.name== "runtime.NumGoroutine")=false/\fn.body=some c)/\
  ∀(U:Gh) (w:World) (cargs:Array Value),HK U h w->(∀g cs,cx.HO g=some cs->Df U cs g 0)->Bp U args cargs.toList->
   Calls cx.P (E0 20) cargs w λe w'=>match e with
    | .returned v=>∃d,HK d h' w'/\LQ U w d w'/\BT d r v/\(cx.JM 20=true->∃s c,Jp d w.heap.size w' s c v r)
    |_=>False:=by
 refine⟨⟨_,_,Proofs.Tryz.func20,rfl,rfl⟩,λU w cargs hi hg ha=>?_⟩;have aOq:∃id x,args=[.ptr (some (id,0)),.int .i64 x]:=by
  unfold fu at Bb;split at Bb;.rename_i a x;obtain⟨id,rfl⟩:=D_ _ Bb;exact⟨id,x,rfl⟩
  .cases Bb
 obtain⟨id,x,rfl⟩:=aOq;obtain⟨v0,us,f,⟨g,hm,rfl⟩,k,i,rfl,rfl,hnil⟩:=ha;cases hnil;have b:cargs=#[.pointer (some ⟨g,0,none⟩),.int .i64 x]:=by apply HW;simpa using f
 subst b;simp only[fu] at Bb;obtain⟨Ed,j,C_,p,cap,ln,hc,PY,iP⟩:=rO hs hi hg hm 100 x 0 [] _ _ Ab Bb;cases j;refine(aFd (D6 hc) hc PY iP C_).mono λe w' he=>?_;obtain⟨rfl,hb⟩:=he;obtain⟨Xz,PV⟩:=hi.LW hb;exact⟨U,Xz,PV,rfl,λe=>by cases e⟩
end Go.Am
end
section
namespace Go.Am
open Go
def ų:iG cx:=by
 refine⟨λf hf=>?_,λf p hp n hs args h r h' Bb=>?_⟩
 .simp only[cx,aID] at hf;split at hf;.exact qp
  .cases hf
 .simp only[cx,aDh] at hp;split at hp;.cases hp;exact aFe n hs args r h' Bb
  .cases hp;exact aE0 n args r h' Bb
  .cases hp;exact Ű n args r h' Bb
  .cases hp;exact Ů n hs args r h' Bb
  .cases hp
end Go.Am
end
