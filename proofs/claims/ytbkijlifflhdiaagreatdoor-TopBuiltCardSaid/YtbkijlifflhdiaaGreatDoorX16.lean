/- Lemmas -/
import Derived.Test.YtbkijlifflhdiaaGreatDoorX15
import Derived.RangeFuncBox
import Derived.OwnWalkIn
import Derived.TacticsInMore
import Derived.LoopNIn
import Derived.Sort.LoopGhostIn
set_option linter.all false
set_option maxHeartbeats 0
set_option maxRecDepth 100000
section
namespace Go.Am
open Go Go.RowKit Go.Shelf
def Wn(ga:Nat)(p:Option Addr)(n cap:Nat)(x:Int)(w:World)(hc:w.cell? ⟨ga,0,none⟩=some (.slice p n cap)):
  Calls Proofs.Tryz.prog 56 #[.pointer (some ⟨ga,0,none⟩),.int .i64 x] w λe w'=>e= .returned (.bool (decide (1<=x/\x<=n)))/\w=w':=by
 go_enter Proofs.Tryz.func56,Proofs.Tryz.ntmps56
 go_wp2
 all_goals refine bodyPost_ret (results_tmp rfl _ _ _) rfl ?_
 all_goals simp_all
 all_goals omega
def ë(ga gn off n cap:Nat)(x:Int)(w:World)(hc:w.cell? ⟨ga,0,none⟩=some (.slice (some ⟨gn,off,none⟩) n cap))(h1:1<=x)(h2:x<=n)(NA:n<=cap)(hm:cap<=maxLen):
  Calls Proofs.Tryz.prog 55 #[.pointer (some ⟨ga,0,none⟩),.int .i64 x] w λe w'=>e= .returned (.pointer (some ⟨gn,off+(x.toNat-1)*13,none⟩))/\w=w':=by
 have hb:maxLen<=9223372036854775807:=Bj;have hw:wrap64 (x-1)=x-1:=Go.IntWalk.wrap64_in _ ⟨Ab,Ab⟩;go_enter Proofs.Tryz.func55,Proofs.Tryz.ntmps55
 go_wp2
 all_goals refine bodyPost_ret (results_tmp rfl _ _ _) rfl ?_
 all_goals exact⟨rfl,rfl⟩
def ì(ga:Nat)(x:Int)(w:World):
  Calls Proofs.Tryz.prog 184 #[.pointer (some ⟨ga,0,none⟩),.int .i64 x,.bool true] w λe w'=>e= .returned (.func (.func 208) #[] #[.pointer (some ⟨w.heap.size+1,0,none⟩),.pointer (some ⟨w.heap.size,0,none⟩),.pointer (some ⟨w.heap.size+1+1,0,none⟩)])/\
   w'=((w.alloc (.cells #[.pointer (some ⟨ga,0,none⟩)] 37)).alloc (.cells #[.int .i64 x] 3)).alloc (.cells #[.bool true] 4):=by
 have a:∀(fn:Fn) (first cap:Array Value) (w:World),(Instr.makeFunc fn first cap).run Proofs.Tryz.prog w= .ok (.func fn first cap) w:=λ_ _ _ _=>rfl;go_enter Proofs.Tryz.func184,Proofs.Tryz.ntmps184
 go_wp2
 go_ret
 exact⟨rfl,rfl⟩
def dK{cs:List Aa}{off n:Nat}{up:Int}{k:Nat}{b:Bool}(h:Ki cs off n up k 0=some b):b=false:=by cases k<;>simp[Ki] at h<;>exact h
def dL{cs:List Aa}{off n:Nat}{up x:Int}{k:Nat}{b:Bool}(h:Ki cs off n up k x=some b)(hx:x≠0):∃k',k=k'+1/\
  ((x=up/\b=true)\/(x≠up/\1<=x/\x<=n/\∃p q,F5 cs off x 1=some p/\F5 cs off x 12=some q/\Ki cs off n up k' (if p=0 then q else p)=some b)):=by
 cases k with
 |zero=>
  rw[Ki] at h;. cases h
  .exact λe=>hx e
 |succ k=>
  refine⟨k,rfl,?_⟩;rw[Ki] at h
  .split at h;.rename_i e;cases h;exact .inl ⟨e,rfl⟩
   .rename_i e;split at h
    .rename_i hr;split at h;.rename_i p q c a;exact .inr ⟨e,hr.1,hr.2,p,q,c,a,h⟩
     .cases h
    .cases h
  .exact λe=>hx e
structure Zx(Ba Bo ga gn off n cap:Nat)(cs:List Aa)(W:World):Prop where
 a:W.cell? ⟨Ba,0,none⟩=some (.pointer (some ⟨ga,0,none⟩))
 o:W.cell? ⟨Bo,0,none⟩=some (.bool true)
 c:W.cell? ⟨ga,0,none⟩=some (.slice (some ⟨gn,off,none⟩) n cap)
 x:∀(h:Int) (k:Nat) (v:Int),1<=h->h<=n->(k=1\/k=12)->F5 cs off h k=some v->W.cell? ⟨gn,off+(h.toNat-1)*13+k,none⟩=some (.int .i64 v)
def Zx.ME{Ba Bo ga gn off n cap:Nat}{cs:List Aa}{A B:World}(h:Zx Ba Bo ga gn off n cap cs A)(hk:∀b,b=Ba\/b=Bo\/b=ga\/b=gn->B.heap[b]?=A.heap[b]?):Zx Ba Bo ga gn off n cap cs B:=
 ⟨by rw[Cs (hk _ Aw)];exact h.a,by rw[Cs (hk _ Aw)];exact h.o,by rw[Cs (hk _ Aw)];exact h.c,
  λx k v h1 h2 e d=>by rw[Cs (hk _ Aw)];exact h.x x k v h1 h2 e d⟩
def jB{Ba Bo ga gn off n cap a:Nat}{cs:List Aa}{A:World}{u:Value}{J:World->Prop}(c:∀A B row,J A->A.grownBy B row->(∀r,row=some r->r=a)->J B)
  (hd:∀b,b=Ba\/b=Bo\/b=ga\/b=gn->b≠a) (hs:Zx Ba Bo ga gn off n cap cs A) (hc:A.cell? ⟨a,0,none⟩=some u) (hf:A.frozen? ⟨a,0,none⟩=false) (hj:J A) (v:Value):
  Zx Ba Bo ga gn off n cap cs (A.setCell ⟨a,0,none⟩ v)/\(A.setCell ⟨a,0,none⟩ v).cell? ⟨a,0,none⟩=some v/\(A.setCell ⟨a,0,none⟩ v).frozen? ⟨a,0,none⟩=false/\J (A.setCell ⟨a,0,none⟩ v):=
 ⟨hs.ME λb hb=>Below.heap_setCell _ _ _ b (hd b hb),World.cell?_setCell_same _ _ _ hc,by rw[World.frozen?_setCell];exact hf,c _ _ _ hj (grownBy_setCell' A a v) λr e=>by cases e;rfl⟩
def í(m l d Ba Bo n₁ ga gn off n cap:Nat)(cs:List Aa)(up:Int)(J C:World->Prop)
  (y:∀A B row,J A->A.grownBy B row->(∀r,row=some r->r=d)->J B)
  (I:∀x W,J W->YieldAt Fence.wide (m-1) Proofs.Tryz.prog l #[.int .i64 x] W λe W'=>(e= .returned (.bool true)/\J W'/\Below n₁ W W'/\x≠up)\/(e= .returned (.bool false)/\C W'/\x=up))
  (hd:∀b,b=Ba\/b=Bo\/b=ga\/b=gn->b<n₁/\b≠d) (g:d<n₁) (NA:n<=cap) (hm:cap<=maxLen)
  (W:World) (h:Int) (hs:Zx Ba Bo ga gn off n cap cs W) (j:W.cell? ⟨d,0,none⟩=some (.int .i64 h)) (hf:W.frozen? ⟨d,0,none⟩=false)
  (fuel:Nat) (b:Bool) (hcl:Ki cs off n up fuel h=some b) (h0:J W):
  CallsIn Fence.wide m Proofs.Tryz.prog 208 #[.func (.yield l) #[] #[],.pointer (some ⟨d,0,none⟩),.pointer (some ⟨Ba,0,none⟩),.pointer (some ⟨Bo,0,none⟩)] W λe W'=>(∃v,e= .returned v)/\((b=false/\J W')\/(b=true/\C W')):=by
 refine callsIn_of_wp Proofs.Tryz.func208 rfl trivial ?_ rfl;simp only[Proofs.Tryz.ntmps208,BP,AU,BK,Nat.reduceAdd,Nat.reduceSub,I4,I5,K4,Jy,BG,CP];gi_wp2
 gi_loopg [] fuel (λk wr=>∃x,Ki cs off n up k x=some b/\Zx Ba Bo ga gn off n cap cs wr/\wr.cell? ⟨d,0,none⟩=some (.int .i64 x)/\wr.frozen? ⟨d,0,none⟩=false/\J wr)
 case atStart=>exact⟨h,hcl,hs,j,hf,h0⟩
 case round=>
  obtain⟨x,hcl,hs,j,hf,hj⟩:=hrel;by_cases hx:x=0
  .subst hx;have:=dK hcl;subst this;gi_wp2
   refine⟨nofun,?_⟩;gi_wp2
   go_end0
   exact⟨⟨_,rfl⟩,hj⟩
  .obtain⟨k',rfl,HL⟩:=dL hcl hx;have hne:(x != 0)=true:=by simp[hx]
   obtain⟨fn,tmps,assign,body,hy,hR⟩:=I x wr hj;gi_wp2
   refine⟨nofun,?_⟩;refine hR.mono ?_;rintro e W3 (⟨rfl,t,bQ,lj⟩|⟨rfl,f,lj⟩)
   .rcases HL with⟨rfl,_⟩|⟨_,h1,h2,p,q,L,K,r_⟩
    .exact absurd rfl lj
    have zu:=hs.ME λb hb=>bQ.block b (hd b hb).1;have i:W3.cell? ⟨d,0,none⟩=some (.int .i64 x):=by rw[Cs (bQ.block d g)];exact j
    have s:W3.frozen? ⟨d,0,none⟩=false:=by rw[<-hf];simp only[World.frozen?,bQ.block d g]
    have hp:=zu.x x 1 p h1 h2 (.inl rfl) L;have hq:=zu.x x 12 q h1 h2 (.inr rfl) K;have N:=zu.a;have M:=zu.o;have F:¬Bo=d:=(hd Bo Aw).2;have E:¬gn=d:=(hd gn Aw).2;gi_wp2
    refine⟨trivial,nofun,(callsIn_wide.2 (ë ga gn off n cap x _ zu.c h1 h2 NA hm)).mono ?_⟩;rintro e w' ⟨rfl,rfl⟩;obtain⟨u,z,z4,w⟩:=jB y (λb hb=>(hd b hb).2) zu i s t (.int .i64 p);by_cases px:p=0
    .subst px;obtain⟨D,O,z5,G⟩:=jB y (λb hb=>(hd b hb).2) u z z4 w (.int .i64 q);gi_wp2
     gi_roundg k'
     case measure=>omega
     case rel=>exact⟨q,r_,D,O,z5,G⟩
    .have H:(p==0)=false:=by simp[px]
     gi_wp2
     gi_roundg k'
     case measure=>omega
     case rel=>exact⟨p,by rw[Ac px] at r_;exact r_,u,z,z4,w⟩
   .rcases HL with⟨_,rfl⟩|⟨aCe,_⟩
    .gi_wp2
     go_end0
     exact⟨⟨_,rfl⟩,f⟩
    .exact absurd lj aCe
def sa(n₁:Nat)(up:Int)(I a:World->Prop)(x:Int)(W:World):Exit->Act->World->Prop
 | .normal,_,W'=>KeepsOthers W W'/\Below n₁ W W'/\I W'/\x≠up
 | .ret,_,W'=>KeepsOthers W W'/\a W'/\x=up
 | .exit _,_,_=>False
 | .goto _,_,_=>False
 | .panic _,_,_=>False
 | .outgrown,_,_=>False
def XI{P:Program}{n gf:Nat}{lb:Array Value}{g:Operand}{ps:Array Tmp}{assign body:Code}{Q:Exit->Act->World->Prop}{a:Act}{w:World}(h:Nat)(b:Bool)(up:Int)
  (hg:a.eval g= .func (.func gf) #[] lb) (u:∀args w,(callFunc gf args).run P w= .ok (.enter gf args) w) (s:h<w.heap.size)
  (sd:∀(l:Nat) (J o:World->Prop) (W:World),Below w.heap.size w W->(∀A B row,J A->A.grownBy B row->(∀r,row=some r->r=h)->J B)->
   (∀x W1,J W1->YieldAt Fence.wide (n-1 -1) P l #[.int .i64 x] W1 λe W'=>(e= .returned (.bool true)/\J W'/\Below w.heap.size W1 W'/\x≠up)\/(e= .returned (.bool false)/\o W'/\x=up))->J W->
   CallsIn Fence.wide (n-1) P gf (#[.func (.yield l) #[] #[]]++lb) W λe W'=>(∃v,e= .returned v)/\((b=false/\J W')\/(b=true/\o W')))
  (zJ:ps.size=1) (I f:World->Prop) (hI:∀A B row,I A->A.grownBy B row->(∀r,row=some r->r=h\/w.heap.size<=r)->I B)
  (hIx:∀A B row,f A->A.grownBy B row->(∀r,row=some r->r=h\/w.heap.size<=r)->f B) (h0:I w) (a₁:Int->Act)
  (hassign:∀(l:Nat) (x:Int) (W:World) (K:Act->World->Prop),K (a₁ x) W->
   assign.wpIn (Fence.wide.inRound l) (n-1 -1) P (Exit.then K (λ_ _ _=>False)) {tmps:=(ps.zip #[.int .i64 x]).foldl (λt (p,v)=>t.setIfInBounds p v) a.tmps,defers:=[]} W)
  (T1:∀(l:Nat) (x:Int) (W:World),I W->body.wpIn (Fence.wide.inRound l) (n-1 -1) P (sa w.heap.size up I f x W) (a₁ x) W)
  (tC:∀(D:Nat) (W:World),b=false->I W->W.heap[D]?=some (.deferred (some []))->w.heap.size<=D->Q .normal {a with defers:={target:= .collected D,args:=#[]}::a.defers} W)
  (tD:∀(D:Nat) (W:World),b=true->f W->W.heap[D]?=some (.deferred (some []))->w.heap.size<=D->Code.ret.wpIn Fence.wide n P Q {a with defers:={target:= .collected D,args:=#[]}::a.defers} W):
  (Code.rangeFunc g ps assign body).wpIn Fence.wide n P Q a w:=by
 refine wpIn_rangeFunc ?_;intro fn zD;have hro:Fence.wide.round=none:=rfl;rw[hro];obtain⟨rec,Vx⟩:∃rec:LoopState->Option Code->Loop,rec=λst q=>{state:=st,pending:=q,fn,tmps:=a.tmps,params:=ps,assign,body,defers:=w.heap.size}:=⟨_,rfl⟩;obtain⟨W1,c⟩:∃W1,(w.alloc (.deferred (some []))).alloc (.loop (rec .ready none))=W1:=⟨_,rfl⟩;have i:W1.heap[w.heap.size+1]?=some (.loop (rec .ready none)):=by rw[<-c];have:=World.alloc_heap_new (w.alloc (.deferred (some []))) (.loop (rec .ready none));rwa [World.size_alloc] at this
 have j:W1.heap[w.heap.size]?=some (.deferred (some [])):=by rw[<-c];exact(Below.heap_alloc _ _ _ Aw).trans (World.alloc_heap_new w _)
 have k:I W1:=by rw[<-c];exact hI _ _ none (hI _ _ none h0 (World.grownBy_alloc _ _ none) nofun) (World.grownBy_alloc _ _ none) nofun
 have QZ:Below w.heap.size w W1:=by rw[<-c];exact(((Below.refl _ w).alloc (Af _) _).alloc Aw _)
 refine⟨w.heap.size+1,[{target:= .collected w.heap.size,args:=#[]}],W1,{target:= .fn (.func gf) lb,args:=#[.func (.yield (w.heap.size+1)) #[] #[]]},W1,gf,
  #[.func (.yield (w.heap.size+1)) #[] #[]]++lb,W1,?_,?_,?_,?_,nofun,?_⟩
 .rw[<-c,Vx];exact run_enterLoop_outer _ _ _ _ _
 .simp only[resolve,hg];simp[go_sem]
 .intro f' sJ;trivial
 .simp[invoke,go_sem,u]
 .refine(sd (w.heap.size+1)
   (λW=>I W/\W.heap[w.heap.size+1]?=some (.loop (rec .ready none))/\W.heap[w.heap.size]?=some (.deferred (some [])))
   (λW=>f W/\W.heap[w.heap.size+1]?=some (.loop (rec .done (some .ret)))/\W.heap[w.heap.size]?=some (.deferred (some [])))
   W1 QZ
   (λA B row hs hg' hr=>⟨hI A B row hs.1 hg' (λr e=> .inl (hr r e)),(hg'.block _ (AK.1 hs.2.1).1 (λe=>by have:=hr _ e.symm;omega)).trans hs.2.1,
    (hg'.block _ (AK.1 hs.2.2).1 (λe=>by have:=hr _ e.symm;omega)).trans hs.2.2⟩)
   ?_ ⟨k,i,j⟩).mono ?_
  .rintro x W ⟨hi,hl,hk⟩;have hlt:w.heap.size+1<W.heap.size:=(AK.1 hl).1;have hy:=run_yield (P:=P) (args:=#[.int .i64 x]) hl (by rw[Vx];exact zJ.symm);rw[Vx] at hy;refine⟨fn,_,assign,body,hy,roundIn_of_wpIn zD (hassign _ x W _ ⟨_,run_beginRound hl (by rw[Vx]),?_⟩)⟩;have YP:(W.putObj (w.heap.size+1) (.loop {rec .ready none with state:= .busy})).heap[w.heap.size+1]?=some (.loop {rec .ready none with state:= .busy}):=World.putObj_heap_same hlt;have S0:(W.putObj (w.heap.size+1) (.loop {rec .ready none with state:= .busy})).heap[w.heap.size]?=some (.deferred (some [])):=(World.putObj_heap_other Ab).trans hk;have sG:Below w.heap.size W (W.putObj (w.heap.size+1) (.loop {rec .ready none with state:= .busy})):=belowK_b (Af _) W _ _ _ Ab hl rfl rfl;refine wpIn_mono (T1 _ x _ (hI _ _ _ hi (grownBy_putObj' W _ _) (λr e=> .inr (by cases e;omega)))) ?_;have Iv:∀(jump:Option Code) (W3:World),KeepsOthers (W.putObj (w.heap.size+1) (.loop {rec .ready none with state:= .busy})) W3->
     (Instr.endRound (w.heap.size+1) jump).run P W3= .ok (.bool jump.isNone) (W3.putObj (w.heap.size+1) (.loop (rec (if jump.isNone then .ready else .done) jump)))/\
     W3.heap[w.heap.size+1]?=some (.loop {rec .ready none with state:= .busy})/\
     (W3.putObj (w.heap.size+1) (.loop (rec (if jump.isNone then .ready else .done) jump))).heap[w.heap.size+1]?=some (.loop (rec (if jump.isNone then .ready else .done) jump))/\
     (W3.putObj (w.heap.size+1) (.loop (rec (if jump.isNone then .ready else .done) jump))).heap[w.heap.size]?=some (.deferred (some [])):=λjump W3 bQ=>by
    have jA:=bQ.same _ _ YP rfl;have:=run_endRound (P:=P) jump jA;rw[Vx] at this⊢;exact⟨this,by rw[Vx] at jA;exact jA,World.putObj_heap_same (AK.1 jA).1,(World.putObj_heap_other Ab).trans (bQ.same _ _ S0 rfl)⟩
   rintro e a3 W3 hp;cases e with
   |normal=>obtain⟨bQ,aCg,rj,hne⟩:=hp;obtain⟨hr,jA,d,zY⟩:=Iv none W3 bQ;exact⟨_,_,hr,.inl ⟨rfl,⟨hI _ _ _ rj (grownBy_putObj' W3 _ _) (λr e=> .inr (by cases e;omega)),d,zY⟩,(sG.trans aCg).trans (belowK_b (Af _) W3 _ _ _ Ab jA rfl rfl),hne⟩⟩
   |ret=>obtain⟨bQ,rj,he⟩:=hp;obtain⟨hr,jA,d,zY⟩:=Iv (some .ret) W3 bQ;exact⟨_,_,hr,.inr ⟨rfl,⟨hIx _ _ _ rj (grownBy_putObj' W3 _ _) (λr e=> .inr (by cases e;omega)),d,zY⟩,he⟩⟩
   |exit id=>exact hp.elim
   |goto t=>exact hp.elim
   |panic ch=>exact hp.elim
   |outgrown=>exact hp.elim
  .rintro e m ⟨⟨v,rfl⟩,⟨hb,hi,hl,hk⟩|⟨hb,hi,hl,hk⟩⟩;.exact⟨none,_,by have:=run_endLoop (P:=P) hl (by rw[Vx];simp);rw[Vx] at this;exact this,tC _ _ hb (hI _ _ _ hi (grownBy_putObj' m _ _) (λr e=> .inr (by cases e;omega))) ((World.putObj_heap_other Ab).trans hk) (Af _)⟩
   .exact⟨some .ret,_,by have:=run_endLoop (P:=P) hl (by rw[Vx];simp);rw[Vx] at this;exact this,tD _ _ hb (hIx _ _ _ hi (grownBy_putObj' m _ _) (λr e=> .inr (by cases e;omega))) ((World.putObj_heap_other Ab).trans hk) (Af _)⟩
def Cv{W:World}{k j:Nat}{v:Value}(o:Obj)(h:W.cell? ⟨k,j,none⟩=some v):(W.alloc o).cell? ⟨k,j,none⟩=some v:=by rw[World.cell?_alloc_past _ _ _ (Db h)];exact h
def JF{W:World}{k j:Nat}{v:Value}(o:Obj)(h:W.cell? ⟨k,j,none⟩=some v):(W.alloc o).frozen? ⟨k,j,none⟩=W.frozen? ⟨k,j,none⟩:=
 World.frozen?_alloc_past _ _ _ (Db h)
def Ky(W:World)(v:Value)(t:TypeId):(W.alloc (.cells #[v] t)).cell? ⟨W.heap.size,0,none⟩=some v/\(W.alloc (.cells #[v] t)).frozen? ⟨W.heap.size,0,none⟩=false:=by
 have h:(W.alloc (.cells #[v] t)).heap[W.heap.size]?=some (.cells #[v] t (0,0)):=World.alloc_heap_new W _;constructor;.simp only[World.cell?,h];rfl
 .simp only[World.frozen?,h];rfl
def T6{A B:World}{row:Option Nat}{k:Nat}{v:Value}(h:A.cell? ⟨k,0,none⟩=some v)(hg:A.grownBy B row)(hr:∀r,row=some r->k≠r):
  B.cell? ⟨k,0,none⟩=some v/\B.frozen? ⟨k,0,none⟩=A.frozen? ⟨k,0,none⟩:=by
 have hb:B.heap[k]?=A.heap[k]?:=hg.block k (Db h) (λe=>hr k e.symm rfl);exact⟨by rw[Cs hb];exact h,by simp only[World.frozen?,hb]⟩
def sg(ga gn off n cap:Nat)(cs:List Aa)(up x:Int)(w:World)(î:ga<w.heap.size)(ll:gn<w.heap.size)(NA:n<=cap)(hm:cap<=maxLen)
  (hc:w.cell? ⟨ga,0,none⟩=some (.slice (some ⟨gn,off,none⟩) n cap))
  (hx:∀(h:Int) (k:Nat) (v:Int),1<=h->h<=n->(k=1\/k=12)->F5 cs off h k=some v->w.cell? ⟨gn,off+(h.toNat-1)*13+k,none⟩=some (.int .i64 v))
  (b:Bool) (hcl:Ki cs off n up (n+1) x=some b) (Xs:1<=up) (Qe:up<=n) (Ri:1<=x) (XJ:x<=n):
  Calls Proofs.Tryz.prog 142 #[.pointer (some ⟨ga,0,none⟩),.int .i64 up,.int .i64 x] w λe w'=>e= .returned (.bool b)/\Below w.heap.size w w':=by
 refine(callsIn_wide (n:=5)).1 ?_;refine callsIn_of_wp_marks Proofs.Tryz.func142 rfl trivial ?_;simp only[Proofs.Tryz.ntmps142,BP,AU,BK,Nat.reduceAdd,Nat.reduceSub,I4,I5,K4,Jy,BG,CP];have q:((w.alloc (.cells #[.int .i64 up] 3)).alloc (.cells #[.bool false] 4)).cell? ⟨ga,0,none⟩=some (.slice (some ⟨gn,off,none⟩) n cap):=by rw[World.cell?_alloc_past _ _ _ ER,World.cell?_alloc_past _ _ _ î];exact hc
 have u:=Ky w (.int .i64 up) 3;have d:=Ky (w.alloc (.cells #[.int .i64 up] 3)) (.bool false) 4;have t:=Ky ((w.alloc (.cells #[.int .i64 up] 3)).alloc (.cells #[.bool false] 4)) (.pointer (some ⟨ga,0,none⟩)) 37;have i:=Ky (((w.alloc (.cells #[.int .i64 up] 3)).alloc (.cells #[.bool false] 4)).alloc (.cells #[.pointer (some ⟨ga,0,none⟩)] 37)) (.int .i64 x) 3;have s:=Ky ((((w.alloc (.cells #[.int .i64 up] 3)).alloc (.cells #[.bool false] 4)).alloc (.cells #[.pointer (some ⟨ga,0,none⟩)] 37)).alloc (.cells #[.int .i64 x] 3)) (.bool true) 4;simp only[World.size_alloc] at d t i s;have G:decide (1<=up/\up<=n)=true:=Bf ⟨Xs,Qe⟩;have F:decide (1<=x/\x<=n)=true:=Bf ⟨Ri,XJ⟩;gi_wp2
 refine⟨trivial,(callsIn_wide.2 (Wn ga _ n cap up _ q)).mono ?_⟩;rintro e w' ⟨rfl,rfl⟩;rw[G];gi_wp2
 refine⟨trivial,(callsIn_wide.2 (Wn ga _ n cap x _ q)).mono ?_⟩;rintro e w' ⟨rfl,rfl⟩;rw[F];gi_wp2
 refine⟨trivial,(callsIn_wide.2 (ì ga x _)).mono ?_⟩;rintro e w' ⟨rfl,rfl⟩;gi_wp2
 refine XI (gf:=208) (lb:=#[.pointer (some ⟨w.heap.size+1+1+1,0,none⟩),.pointer (some ⟨w.heap.size+1+1,0,none⟩),.pointer (some ⟨w.heap.size+1+1+1+1,0,none⟩)]) (w.heap.size+1+1+1) b up rfl (Go.Proofs.enters_of Proofs.Tryz.func208 A0 rfl) Aw
  ?sd rfl
  (λW=>Below w.heap.size w W/\W.cell? ⟨w.heap.size,0,none⟩=some (.int .i64 up)/\W.cell? ⟨w.heap.size+1,0,none⟩=some (.bool false)/\W.frozen? ⟨w.heap.size+1,0,none⟩=false)
  (λW=>Below w.heap.size w W/\W.cell? ⟨w.heap.size+1,0,none⟩=some (.bool true)) ?hI ?hIx ?h0
  (λy=>{tmps:=#[.pointer (some ⟨ga,0,none⟩),.int .i64 up,.int .i64 x,undef,.pointer (some ⟨w.heap.size,0,none⟩),undef,.pointer (some ⟨w.heap.size+1,0,none⟩),.int .i64 y,.pointer (some ⟨ga,0,none⟩),.int .i64 up,.bool true,.bool false,.bool false,.pointer (some ⟨ga,0,none⟩),.int .i64 x,.bool true,.bool false,.bool false,.pointer (some ⟨ga,0,none⟩),.int .i64 x,.func (.func 208) #[] #[.pointer (some ⟨w.heap.size+1+1+1,0,none⟩),.pointer (some ⟨w.heap.size+1+1,0,none⟩),.pointer (some ⟨w.heap.size+1+1+1+1,0,none⟩)],.int .i64 y,undef,undef,undef],defers:=[]})
  ?hassign ?T1 ?tC ?tD
 case hI=>rintro A B row ⟨h1,h2,c,p⟩ hg hr;have K9:=Db c;have z:=T6 h2 hg (λr e=>by rcases hr r e with rfl|h<;>simp at* <;>omega);have m:=T6 c hg (λr e=>by rcases hr r e with rfl|h<;>simp at* <;>omega);exact⟨h1.grown hg Ab (λk e=>by rcases hr k e with rfl|h<;>simp at* <;>omega),z.1,m.1,m.2.trans p⟩
 case hIx=>rintro A B row ⟨h1,c⟩ hg hr;have K9:=Db c;have m:=T6 c hg (λr e=>by rcases hr r e with rfl|h<;>simp at* <;>omega);exact⟨h1.grown hg Ab (λk e=>by rcases hr k e with rfl|h<;>simp at* <;>omega),m.1⟩
 case h0=>
  refine⟨(((((Below.refl _ w).alloc (Af _) _).alloc Aw _).alloc ER _).alloc ER _).alloc ER _,?_,?_,?_⟩;.exact Cv _ (Cv _ (Cv _ (Cv _ u.1)))
  .exact Cv _ (Cv _ (Cv _ d.1))
  .rw[JF _ (Cv _ (Cv _ d.1)),JF _ (Cv _ d.1),JF _ d.1];exact d.2
 case sd=>
  intro l J H W hW E C hj;have kk:∀{k j:Nat} {v:Value},(((((w.alloc (.cells #[.int .i64 up] 3)).alloc (.cells #[.bool false] 4)).alloc (.cells #[.pointer (some ⟨ga,0,none⟩)] 37)).alloc (.cells #[.int .i64 x] 3)).alloc (.cells #[.bool true] 4)).cell? ⟨k,j,none⟩=some v->W.cell? ⟨k,j,none⟩=some v:=
   λ{k j v} h=>by rw[Cs (hW.block k (Db h))];exact h
  have hs:Zx (w.heap.size+1+1) (w.heap.size+1+1+1+1) ga gn off n cap cs W:=
   ⟨kk (Cv _ (Cv _ t.1)),kk s.1,kk (Cv _ (Cv _ (Cv _ q))),λh k v h1 h2 c p=>kk (Cv _ (Cv _ (Cv _ (Cv _ (Cv _ (hx h k v h1 h2 c p))))))⟩
  refine í 4 l (w.heap.size+1+1+1) (w.heap.size+1+1) (w.heap.size+1+1+1+1) _ ga gn off n cap cs up J H E C ?_ Aw NA hm W x hs (kk (Cv _ i.1)) ?_ (n+1) b hcl hj;.rintro b (rfl|rfl|rfl|rfl)<;>simp<;>omega
  .have:W.frozen? ⟨w.heap.size+1+1+1,0,none⟩=_:=World.frozen?_of_block (hW.block (w.heap.size+1+1+1) Aw);rw[this,JF _ i.1];exact i.2
 case hassign=>
  intro l y W K f;have aCi:=Oper.semAt_some l;gi_wp2
  exact f
 case T1=>
  rintro l y W ⟨hb,Vt,JB,ju⟩;have aCi:=Oper.semAt_some l;gi_wp2
  .rename_i he;obtain rfl:y=up:=eq_of_beq he;exact⟨KeepsOthers.setCell _ _ _,⟨hb.setCell (EX _) _,World.cell?_setCell_same _ _ _ JB⟩,rfl⟩
  .rename_i he;exact⟨KeepsOthers.refl _,Below.refl _ _,⟨hb,Vt,JB,ju⟩,λe=>by subst e;simp at he⟩
 case tC=>
  rintro D W rfl ⟨hb,Vt,JB,ju⟩ f o;gi_wp2
  have g:=(KeepsOthers.setCell W ⟨w.heap.size+1,0,none⟩ (.bool false)).same D _ f rfl;have a:=cell_kept (World.cell?_setCell_same W ⟨w.heap.size+1,0,none⟩ (.bool false) JB) (grownBy_putObj' _ D (.deferred none)) (λr e=>by cases e;exact⟨_,g,rfl⟩);refine⟨Aw,.inl ⟨_,_,rfl,run_takeDeferred g,?_⟩⟩;refine⟨.bool false,?_,rfl,(hb.setCell (EX _) _).grown (grownBy_putObj' _ D _) (by have:=Db JB;simp;omega) (λk e=>by cases e;simp at o;omega)⟩;simp[results,Proofs.Tryz.f142,go_sem,a]
 case tD=>
  rintro D W rfl ⟨hb,JB⟩ f o;gi_wp2
  have a:=cell_kept JB (grownBy_putObj' _ D (.deferred none)) (λr e=>by cases e;exact⟨_,f,rfl⟩);refine⟨Aw,.inl ⟨_,_,rfl,run_takeDeferred f,?_⟩⟩;refine⟨.bool true,?_,rfl,hb.grown (grownBy_putObj' _ D _) (by have:=Db JB;omega) (λk e=>by cases e;simp at o;omega)⟩;simp[results,Proofs.Tryz.f142,go_sem,a]
def T7(ga:Nat)(p:Option Addr)(n cap:Nat)(up x:Int)(w:World)(hc:w.cell? ⟨ga,0,none⟩=some (.slice p n cap))(ho:¬(1<=up/\up<=n/\1<=x/\x<=n)):
  Calls Proofs.Tryz.prog 142 #[.pointer (some ⟨ga,0,none⟩),.int .i64 up,.int .i64 x] w λe w'=>e= .returned (.bool false)/\Below w.heap.size w w':=by
 have c:((w.alloc (.cells #[.int .i64 up] 3)).alloc (.cells #[.bool false] 4)).cell? ⟨ga,0,none⟩=some (.slice p n cap):=Cv _ (Cv _ hc);have a:=Ky (w.alloc (.cells #[.int .i64 up] 3)) (.bool false) 4;simp only[World.size_alloc] at a;have hb:Below w.heap.size w ((w.alloc (.cells #[.int .i64 up] 3)).alloc (.cells #[.bool false] 4)):=((Below.refl _ w).alloc (Af _) _).alloc Aw _;refine(callsIn_wide (n:=5)).1 ?_;refine callsIn_of_wp Proofs.Tryz.func142 rfl trivial ?_ rfl;simp only[Proofs.Tryz.ntmps142,BP,AU,BK,Nat.reduceAdd,Nat.reduceSub,I4,I5,K4,Jy,BG,CP];by_cases h1:1<=up/\up<=n
 .have b:decide (1<=up/\up<=n)=true:=Bf h1;have d:decide (1<=x/\x<=n)=false:=Bb λh2=>ho ⟨h1.1,h1.2,h2.1,h2.2⟩;gi_wp2
  refine⟨trivial,(callsIn_wide.2 (Wn ga _ n cap up _ c)).mono ?_⟩;rintro e w' ⟨rfl,rfl⟩;rw[b];gi_wp2
  refine⟨trivial,(callsIn_wide.2 (Wn ga _ n cap x _ c)).mono ?_⟩;rintro e w' ⟨rfl,rfl⟩;rw[d];gi_wp2
  refine bodyPost_ret (v:= .bool false) ?_ rfl ⟨rfl,hb⟩;simp[results,Proofs.Tryz.f142,go_sem,a.1]
 .have b:decide (1<=up/\up<=n)=false:=Bb h1;gi_wp2
  refine⟨trivial,(callsIn_wide.2 (Wn ga _ n cap up _ c)).mono ?_⟩;rintro e w' ⟨rfl,rfl⟩;rw[b];gi_wp2
  refine⟨trivial,?_⟩;gi_wp2
  refine bodyPost_ret (v:= .bool false) ?_ rfl ⟨rfl,hb⟩;simp[results,Proofs.Tryz.f142,go_sem,a.1]
section
variable{h:Ah}
def XK{cs:List Aa}{off:Nat}{x:Int}{k:Nat}{v:Int}(e:F5 cs off x k=some v):cs[off+(x.toNat-1)*13+k]?=some (.int .i64 v):=by
 unfold F5 at e;split at e;.rename_i a;cases e;exact a
 .cases e
def zZ(n:Nat)(args:List Aa)(r:Aa)(h':Ah)(AE:IT.step (B2 cx) (IT.run (B2 cx) n) (Mc args) h=some (.ret,[r],h')):
  (∃fn c,cx.P.funcs[Ez 142]?=some fn/\(fn.name== "runtime.NumGoroutine")=false/\fn.body=some c)/\
  ∀(U:Gh) (w:World) (cargs:Array Value),GO U h w->(∀g cs,cx.Gq g=some cs->CD U cs g 0)->AS U args cargs.toList->
   Calls cx.P (Ez 142) cargs w λe w'=>match e with
    | .returned v=>∃d,GO d h' w'/\KF U w d w'/\Bz d r v/\(cx.IJ 142=true->∃s c,HY d w.heap.size w' s c v r)
    |_=>False:=by
 refine⟨⟨_,_,Proofs.Tryz.func142,rfl,rfl⟩,λU w cargs hi hg ha=>?_⟩;simp only[Mc,IT.step,EC] at AE;cases e0:Mb h args with
 |none=>simp[e0] at AE
 |some C=>
 obtain⟨h1,E⟩:=C;simp only[e0] at AE;cases AE;have Iv:∀(b:Bool) (cs:Array Value),h'=h->r= .bool b->Calls Proofs.Tryz.prog 142 cs w (λe w'=>e= .returned (.bool b)/\Below w.heap.size w w')->
   Calls cx.P (Ez 142) cs w λe w'=>match e with
    | .returned v=>∃d,GO d h' w'/\KF U w d w'/\Bz d r v/\(cx.IJ 142=true->∃s c,HY d w.heap.size w' s c v r)
    |_=>False:=by
  rintro b cs rfl rfl hc;refine hc.mono λe w' he=>?_;obtain⟨rfl,hb⟩:=he;obtain⟨YM,Pf⟩:=hi.KJ hb;exact⟨U,YM,Pf,rfl,λe=>by cases e⟩
 unfold Mb at e0;split at e0
 .rename_i id up x;obtain⟨v0,us,ke,⟨g,hm,rfl⟩,D,zn,rfl,rfl,v2,cE,rfl,rfl,hnil⟩:=ha;cases hnil;have a:cargs=#[.pointer (some ⟨g,0,none⟩),.int .i64 up,.int .i64 x]:=by apply GC;simpa using ke
  subst a;split at e0;.rename_i l hc;cases e0;obtain⟨_,y,hy,m⟩:=hi.Qd hc hm (j:=0) rfl;cases m;exact Iv false _ rfl rfl (T7 g none 0 0 up x w hy Ab)
  .rename_i A off len l hc;split at e0
   .rename_i cs hcs;split at e0
    .rename_i hl;obtain⟨_,y,hy,gn,cap,kx,rfl,q,⟨F,p⟩,o⟩:=hi.Qd hc hm (j:=0) rfl;have î:g<w.heap.size:=Db hy;have ll:gn<w.heap.size:=by obtain⟨⟨us,e,fr,u,G⟩,_⟩:=hi.sz gn _ o;exact(AK.1 u).1
     split at e0
     .rename_i hr;cases f:Ki cs off len up (len+1) x with
      |none=>simp[f] at e0
      |some b=>simp only[f,BU,BB,LU] at e0;obtain⟨rfl,rfl⟩:=e0;refine Iv b _ rfl rfl (sg g gn off len cap cs up x w î ll q p hy (λt k v h1 h2 H B=>?_) b f hr.1 hr.2.1 hr.2.2.1 hr.2.2.2);obtain⟨_,z,hz,i⟩:=hi.Qd hcs kx (XK B);cases i;exact hz
     .rename_i hr;cases e0;exact Iv false _ rfl rfl (T7 g _ len cap up x w hy hr)
    .cases e0
   .cases e0
  .cases e0
 .cases e0
end
def Nd{T e:TypeId}{B b:Nat}{bs:List Value}{W W':World}(h:Lib.IsBuilder T e B b bs W)(hb:Below W.heap.size W W'):Lib.IsBuilder T e B b bs W':=by
 have key:∀p,Lib.BuilderAt T e B b p bs W->Lib.BuilderAt T e B b p bs W':=λp ⟨hB,v,xW,EZ,hne⟩=>by refine⟨hB,v,(hb.block b (AK.1 xW).1).trans xW,?_,hne⟩;exact EZ.kept (row:=none) ⟨hb.os,hb.tape,hb.output,hb.size,λk hk _=>hb.block k hk⟩ (Classical.em _)
 exact h.imp (key _) (key _)
def Jn(a b:List UInt8):Lib.byteCells (a++b)=Lib.byteCells a++Lib.byteCells b:=by simp[Lib.byteCells]
def byteCells_length(a:List UInt8):(Lib.byteCells a).length=a.length:=by simp[Lib.byteCells]
def dM(d:Nat):Lib.repeatL [32,32] d=List.replicate (2*d) 32:=by
 induction d with
 |zero=>rfl
 |succ d ih=>rw[Lib.repeatL,ih,(Ab:2*(d+1)=2*d+1+1),Jv,Jv];rfl
def dN:∀a:Aa,a.K6=true->a.still=true
 | .bool _,_=>rfl
 | .int _ _,_=>rfl
 | .str _,_=>rfl
 |a,h=>by cases a<;>first|rfl|simp[Aa.K6] at h
def R6:∀l:List Aa,l.all Aa.K6=true->Ii l=true
 |[],_=>rfl
 |a::l,h=>by simp only[W8,Bt] at h;simp only[Ii,Bt];exact⟨dN a h.1,R6 l h.2⟩
section
variable{U:Gh}{h:Ah}{w:World}
def Zy(hi:GO U h w){id g:Nat}{cs:List Aa}(hc:h[id]?=some (.cells cs))(hm:U.mu id=some g):∀(n o:Nat),o+n<=cs.length->Lm (Cg cs 1 o n)=true->
  (Cg cs 1 o n).length=n/\Ey (Fz w) (Cg cs 1 o n) 1 g o
 |0,o,_,_=>⟨rfl,trivial⟩
 |n+1,o,hl,hs=>by
  have hlt:o<cs.length:=Ab;have a:(cs.drop o).take 1=[cs[o]]:=by rw[AA hlt];rfl
  have YH:Ii ((cs.drop o).take 1)=true/\Lm (Cg cs 1 (o+1) n)=true:=by simpa only[Cg,Lm,Bt] using hs
  obtain⟨p,q⟩:=Zy hi hc hm n (o+1) Ab YH.2;rw[a] at YH;have HW:cs[o].still=true:=by simpa[Ii] using YH.1
  obtain⟨u,hu,h1,hr⟩:=Md hi hc hm (Ai hlt);refine⟨by simp[Cg,p],?_⟩;simp only[Cg,a];exact⟨rfl,⟨⟨u,Rh hu h1,Bz.mem hi _ _ HW hr⟩,trivial⟩,q⟩
def XL(w:World)(b o:Nat)(AT:List (List Aa)):Prop:=
 ∃v,w.cell? ⟨b,o,none⟩=some v/\((v= .slice none 0 0/\AT=[])\/
  (∃a c cap,v= .slice (some ⟨a,c,none⟩) AT.length cap/\AT.length<=cap/\cap<=maxLen/\a<w.heap.size/\Ey (Fz w) AT 1 a c))
def tE(hi:GO U h w){id g:Nat}(hm:U.mu id=some g){x:Int}{h1:Ah}{r:Aa}(e:nK h [.ptr (some (id,0)),.int .i64 x]=some (h1,r)):
  h1=h/\∃gn off n cap row c AT,r= .tuple [.Cz row,.int .i64 c,.sl 1 AT]/\g<w.heap.size/\gn<w.heap.size/\w.cell? ⟨g,0,none⟩=some (.slice (some ⟨gn,off,none⟩) n cap)/\n<=cap/\cap<=maxLen/\
   1<=x/\x<=n/\CD (Fz w) row gn (off+(x.toNat-1)*13)/\w.cell? ⟨gn,off+(x.toNat-1)*13+11,none⟩=some (.int .i64 c)/\XL w gn (off+(x.toNat-1)*13+2) AT:=by
 unfold nK at e;split at e
 .rename_i Fb x' I8;cases I8;split at e
  .rename_i Y off n l hc;split at e
   .rename_i cs hcs;split at e
    .rename_i hx;split at e
     .rename_i A z H v t s q p o k YO c k_ hrow;split at e
      .rename_i HW;simp only[Ii,Bt,J1] at HW;obtain⟨s0,S,R,Q,P,O,N,M,L,C,B⟩:=HW;obtain⟨_,y,hy,gn,cap,kx,rfl,K,⟨q2,J⟩,W⟩:=hi.Qd hc hm (j:=0) rfl;have ll:gn<w.heap.size:=by obtain⟨⟨us,e,fr,D,X⟩,_⟩:=hi.sz gn _ W;exact(AK.1 D).1
       have get:∀(j:Nat) (a:Aa),j<13->[A,z,H,v,t,s,q,p,o,k,YO,.int .i64 c,k_][j]?=some a->cs[off+(x.toNat-1)*13+j]?=some a:=λj a hj ha=>by rw[<-hrow,CA hj,Cm] at ha;exact ha
       have key:∀(j:Nat) (a:Aa),j<13->[A,z,H,v,t,s,q,p,o,k,YO,.int .i64 c,k_][j]?=some a->a.still=true->∃u,(Fz w).Hh gn (off+(x.toNat-1)*13+j)=some u/\Bz (Fz w) a u:=λj a hj ha hs=>by obtain⟨u,hu,ho,hr⟩:=Md hi hcs kx (get j a hj ha);exact⟨u,Rh hu ho,Bz.mem hi _ _ hs hr⟩
       have jC:w.cell? ⟨gn,off+(x.toNat-1)*13+11,none⟩=some (.int .i64 c):=by obtain⟨u,hu,_,hr⟩:=Md hi hcs kx (get 11 _ Ab rfl);cases hr;exact hu
       obtain⟨Z,Qe,bM,Lj⟩:=Md hi hcs kx (get 2 H Ab rfl);have mk:∀(E:Aa),(∃u,(Fz w).Hh gn (off+(x.toNat-1)*13+2)=some u/\Bz (Fz w) E u)->CD (Fz w) [A,z,E,v,t,s,q,p,o,k,YO,.int .i64 c,k_] gn (off+(x.toNat-1)*13):=λE h2=>⟨key 0 A Ab rfl s0,key 1 z Ab rfl S,h2,key 3 v Ab rfl R,key 4 t Ab rfl Q,key 5 s Ab rfl P,key 6 q Ab rfl O,key 7 p Ab rfl N,key 8 o Ab rfl M,key 9 k Ab rfl L,key 10 YO Ab rfl C,key 11 _ Ab rfl rfl,key 12 k_ Ab rfl B,trivial⟩
       have hg:=Db hy;split at e;.cases e;cases Lj;exact⟨rfl,gn,off,n,cap,_,c,[],rfl,hg,ll,hy,K,J,hx.1,hx.2.1,mk _ ⟨_,Rh Qe bM,rfl⟩,jC,_,Qe,.inl ⟨rfl,rfl⟩⟩
       .rename_i IG f m;split at e
        .rename_i ks zG;split at e
         .rename_i hk;cases e;obtain⟨i,b,F,rfl,I,⟨r2,V⟩,T⟩:=Lj;obtain⟨d,t2⟩:=Zy hi zG F m f Ab hk.2;have G:i<w.heap.size:=by obtain⟨⟨us,e,fr,D,X⟩,_⟩:=hi.sz i _ T;exact(AK.1 D).1
          refine⟨rfl,gn,off,n,cap,_,c,Cg ks 1 f m,rfl,hg,ll,hy,K,J,hx.1,hx.2.1,mk _ ⟨_,Rh Qe bM,⟨i,f,none⟩,b,by rw[d],by rw[d];exact I,.inl rfl,t2⟩,jC,_,Qe,.inr ⟨i,f,b,by rw[d],by rw[d];exact I,V,G,t2⟩⟩
         .cases e
        .cases e
       .cases e
      .cases e
     .cases e
    .cases e
   .cases e
  .cases e
 .cases e
def aa{n:Nat}(hs:EE cx (IT.run (B2 cx) n))(hi:GO U h w)(hg:∀g cs,cx.Gq g=some cs->CD U cs g 0){row:List Aa}{s:Aq}{h1:Ah}(e:IT.run (B2 cx) n (B2 cx 103 [.Cz row]) []=some (.ret,[.str s],h1))
  {W:World} (hb:Below w.heap.size w W) {gn o:Nat} (hr:CD (Fz w) row gn o):
  Calls Proofs.Tryz.prog 103 #[.pointer (some ⟨gn,o,none⟩)] W λe W'=>e= .returned (.string ⟨⟨s⟩⟩)/\Below W.heap.size W W':=by
 refine((hs.2 103 _ _ _ _ e).2 (Fz W) W #[.pointer (some ⟨gn,o,none⟩)] (sT W) (λg cs j_=>CD.mono (Zv hb) cs g 0 (CD.mem hi cs g 0 (R6 cs (hs.1.1 g cs j_)) (hg g cs j_)))
  ⟨_,_,rfl,⟨gn,o,rfl,CD.mono (Zv hb) row gn o hr⟩,rfl⟩).mono λe W' he=>?_
 cases e with
 |returned v=>obtain⟨a,_,ha,hv,_⟩:=he;cases hv;exact⟨rfl,ha.os,ha.tape,ha.output,ha.size,λk hk=>(ha.ME k hk (λid=>by simp[Fz])).1⟩
 |_=>exact he.elim
end
def ae{w:World}{b o:Nat}{AT:List (List Aa)}(h:XL w b o AT):∃p cap,w.cell? ⟨b,o,none⟩=some (.slice p AT.length cap)/\AT.length<=cap/\cap<=maxLen/\
  ∀(i:Nat) (y:Int),AT[i]?=some [.int .i64 y]->∃a c,p=some ⟨a,c,none⟩/\a<w.heap.size/\w.cell? ⟨a,c+i,none⟩=some (.int .i64 y):=by
 obtain⟨v,hv,⟨rfl,rfl⟩|⟨a,c,cap,rfl,h1,h2,e,d⟩⟩:=h;.exact⟨none,0,hv,Af _,Bj,λi y hi=>by simp at hi⟩
 .refine⟨_,cap,hv,h1,h2,λi y hi=>⟨a,c,rfl,e,?_⟩⟩;obtain⟨_,⟨u,hu,hr⟩,_⟩:=Ey.get d hi;cases hr;have:=hu;simp only[Fz,OJ] at this;simpa using this.1
def Zz(l:List UInt8):Lib.strCells ⟨l.toArray⟩=Lib.byteCells l:=by simp[Lib.strCells,Lib.byteCells]
def XM(l:List UInt8):Lib.strCells ⟨⟨l⟩⟩=Lib.byteCells l:=by simp[Lib.strCells,Lib.byteCells]
def dO(i n:Nat)(h:i<n)(hn:n<=9223372036854775807):wrap64 ((i:Int)+1)=((i+1:Nat):Int):=by rw[Go.IntWalk.wrap64_in _ ⟨Ab,Ab⟩];omega
def Wo(d:Nat)(h:d<=1000):wrap64 ((d:Int)+1)=((d+1:Nat):Int):=by rw[Go.IntWalk.wrap64_in _ ⟨Ab,Ab⟩];omega
abbrev qB(g:Nat)(w0:World)(x:Int)(d:Nat)(Dq Pk:Aq):Prop:=
 ∀(B b:Nat) (W:World),w0.heap.size<=B->B<=W.heap.size->Below w0.heap.size w0 W->Lib.IsBuilder 124 5 B b (Lib.byteCells Dq) W->
  Calls Proofs.Tryz.prog 57 #[.pointer (some ⟨g,0,none⟩),.pointer (some ⟨b,0,none⟩),.int .i64 x,.int .i64 d] W λe W'=>(∃v,e= .returned v)/\Lib.IsBuilder 124 5 B b (Lib.byteCells Pk) W'/\Below B W W'
def nO{p:Prop}(h:p):Hid p:=h
def KK{w0 W':World}{k j:Nat}{v:Value}(hb:Below w0.heap.size w0 W')(h:w0.cell? ⟨k,j,none⟩=some v):W'.cell? ⟨k,j,none⟩=some v:=by rw[Cs (hb.block k (Db h))];exact h
def dP:Code->Code
 | .seq _ c=>dP c
 | .block _ c=>c
 |c=>c
noncomputable def tF:Code:=match Proofs.Tryz.f57.body with
 |some c=>dP c
 |none=> .skip
def tG{w0 W W6:World}{g B b d a:Nat}{p:Option Addr}{AT:List (List Aa)}(hB:w0.heap.size<=B)(h:B<=W.heap.size)(hb:Below w0.heap.size w0 W)(hd:d<=1000)
  (S0:AT.length<=a) (bQ:a<=maxLen) (zY:∀(i:Nat) (y:Int),AT[i]?=some [.int .i64 y]->∃j ko,p=some ⟨j,ko,none⟩/\j<w0.heap.size/\w0.cell? ⟨j,ko+i,none⟩=some (.int .i64 y))
  (f:Nat->Aq) (hf:∀i,i<AT.length->∃y,AT[i]?=some [.int .i64 y]/\qB g w0 y (d+1) (f i) (f (i+1))) (zw:Below B W W6) (l6:Lib.IsBuilder 124 5 B b (Lib.byteCells (f 0)) W6)
  (z2 z4 z5 z6 z7 z8 z9 z10 z11 z12 Z z14 Y z16 X V U z20 T z22 S R Q P O N M L K J I H G F z37 E D C A z x w u t s z51 r z53 q o n m l:Value):
  tF.wpIn Fence.wide 5 Proofs.Tryz.prog (Exit.inBlock 0<|bodyPost Proofs.Tryz.prog Proofs.Tryz.f57 λe W'=>(∃v,e= .returned v)/\Lib.IsBuilder 124 5 B b (Lib.byteCells (f AT.length)) W'/\Below B W W')
   {tmps:=#[.pointer (some ⟨g,0,none⟩),.pointer (some ⟨b,0,none⟩),z2,.int .i64 d,z4,z5,z6,z7,z8,z9,z10,z11,z12,Z,z14,Y,z16,X,V,U,z20,T,z22,S,R,Q,P,O,N,M,L,K,J,I,H,G,F,z37,E,D,C,A,z,x,w,u,.slice p AT.length a,.int .i64 AT.length,.int .i64 0,t,s,z51,r,z53,q,o,n,m,l],defers:=[]} W6:=by
 simp only[tF,dP,Proofs.Tryz.f57];gi_loopg [48] AT.length (λk v wr=>∃i,i<=AT.length/\k=AT.length-i/\v= .int .i64 (i:Nat)/\Below B W wr/\Lib.IsBuilder 124 5 B b (Lib.byteCells (f i)) wr)
 case atStart=>exact⟨0,A7 _,rfl,rfl,zw,l6⟩
 case round=>
  obtain⟨i,hi,rfl,rfl,bbi,li⟩:=hrel;by_cases hlt:i<AT.length
  .obtain⟨y,hy,lp⟩:=hf i hlt;obtain⟨j,ko,rfl,hgk,It⟩:=zY i y hy;have c:Below w0.heap.size w0 wr:=hb.trans (bbi.mono hB);have ci:=KK c It;have aIw:(i:Int)<(AT.length:Int):=by exact_mod_cast hlt
   have hwi:=dO i _ hlt (Bm S0 bQ);have hwd:=Wo d hd;have SY:=lp B b _ hB (Bm h bbi.size) c li;clear lp hf zY S0 bQ c li l6 zw It hy hgk hB h hb;rw[show((d+1:Nat):Int)=(d:Int)+1 from rfl] at SY;gi_wp2
   refine⟨trivial,(callsIn_wide.2 SY).mono ?_⟩;rintro e W7 ⟨⟨v,rfl⟩,l7,b7⟩;gi_wp2
   gi_roundg (AT.length-(i+1))
   case measure=>exact Nat.sub_lt_sub_left hlt (QQ i)
   case rel=>refine⟨i+1,hlt,rfl,?_,bbi.trans b7,l7⟩;first|rfl|exact Ca (Value.int .i64) hwi
  .obtain rfl:i=AT.length:=Nat.le_antisymm hi (Nat.le_of_not_lt hlt);gi_wp2
   go_end0
   exact⟨⟨_,rfl⟩,li,bbi⟩
def si{w0:World}{g gn off n cap:Nat}{c x:Int}{AT:List (List Aa)}(qp:g<w0.heap.size)(ll:gn<w0.heap.size)(hc:w0.cell? ⟨g,0,none⟩=some (.slice (some ⟨gn,off,none⟩) n cap))(NA:n<=cap)(hm:cap<=maxLen)
  (Ri:1<=x) (XJ:x<=n) (jD:w0.cell? ⟨gn,off+(x.toNat-1)*13+11,none⟩=some (.int .i64 c)) (hk:XL w0 gn (off+(x.toNat-1)*13+2) AT)
  {d:Nat} (hd:d<=1000) {Dq h s:Aq}
  (jE:∀W,Below w0.heap.size w0 W->Calls Proofs.Tryz.prog 103 #[.pointer (some ⟨gn,off+(x.toNat-1)*13,none⟩)] W λe W'=>e= .returned (.string ⟨⟨s⟩⟩)/\Below W.heap.size W W')
  (hlen:(Dq++List.replicate (2*d) 32++s++[10]).length<=AQ)
  (jF:(c=0/\h=Dq++List.replicate (2*d) 32++s++[10])\/(c≠0/\qB g w0 c (d+1) (Dq++List.replicate (2*d) 32++s++[10]) h))
  (f:Nat->Aq) (xY:f 0=h) (hf:∀i,i<AT.length->∃y,AT[i]?=some [.int .i64 y]/\qB g w0 y (d+1) (f i) (f (i+1))):
  qB g w0 x d Dq (f AT.length):=by
 intro B b W hB a hb ï;obtain⟨p,K,Y3,S0,bQ,zY⟩:=ae hk;have ka:AQ=140737488355328:=rfl;simp only[Ap,Fa,AU,BK] at hlen;have J:2*d<=140737488355328:=by rw[ka] at hlen;omega
 have I:(Lib.byteCells Dq).length+(⟨(List.replicate (2*d) (32:UInt8)).toArray⟩:ByteArray).size<=140737488355328:=by rw[ka] at hlen;rw[byteCells_length];simp only[ByteArray.size,BP,Fa];omega
 have H:(Lib.byteCells (Dq++List.replicate (2*d) 32)).length+(⟨⟨s⟩⟩:ByteArray).size<=140737488355328:=by rw[ka] at hlen;rw[byteCells_length];simp only[ByteArray.size,Ap,Fa];show _+s.length<=_;omega
 have G:(Lib.byteCells (Dq++List.replicate (2*d) 32++s)).length+1<=140737488355328:=by rw[ka] at hlen;rw[byteCells_length];simp only[Ap,Fa];omega
 have F:d<=9223372036854775807:=Bm hd Bj;clear hlen ka;have Hline:=nO jE;have l:=nO jF;have N:=nO hf;have t:=nO zY;have w:=nO S0;have u:=nO bQ;clear jE jF hf zY hk S0 bQ;refine(callsIn_wide (n:=5)).1 ?_;refine callsIn_of_wp Proofs.Tryz.func57 rfl trivial ?_ rfl;simp only[Proofs.Tryz.ntmps57,BP,AU,BK,Nat.reduceAdd,Nat.reduceSub,I4,I5,K4,Jy,BG,CP];gi_wp2
 refine⟨trivial,(callsIn_wide.2 (ë g gn off n cap x _ (KK hb hc) Ri XJ NA hm)).mono ?_⟩;rintro e w' ⟨rfl,rfl⟩;gi_wp2
 refine⟨trivial,(callsIn_wide.2 (Proofs.Tryz.strings_Repeat ⟨#[32,32]⟩ d _ F J)).mono ?_⟩;rintro e W1 ⟨rfl,b1⟩;have QZ:Below w0.heap.size w0 W1:=hb.trans (b1.mono hb.size);have r:Below B W W1:=b1.mono a;have l1:=Nd ï b1;have hr:(Lib.repeatL (⟨#[32,32]⟩:ByteArray).data.toList d)=List.replicate (2*d) 32:=dM d;rw[hr];gi_wp2
 refine⟨trivial,(callsIn_wide.2 (Proofs.Tryz.Builder_WriteString B b (Lib.byteCells Dq) _ _ l1 I (Bm a r.size))).mono ?_⟩;rintro e R ⟨rfl,C,b2⟩;rw[Zz,<-Jn] at C;have q:=r.trans b2;have MA:Below w0.heap.size w0 R:=QZ.trans (b2.mono hB);gi_wp2
 refine⟨trivial,(callsIn_wide.2 (Hline.out _ MA)).mono ?_⟩;rintro e W3 ⟨rfl,b3⟩;have sj:Below w0.heap.size w0 W3:=MA.trans (b3.mono MA.size);have o:Below B W W3:=q.trans (b3.mono (Bm a q.size));have l3:=Nd (.inr C) b3;gi_wp2
 refine⟨trivial,(callsIn_wide.2 (Proofs.Tryz.Builder_WriteString B b _ _ _ l3 H (Bm a o.size))).mono ?_⟩;rintro e Q ⟨rfl,l4,b4⟩;rw[XM,<-Jn] at l4;have m:=o.trans b4;have è:Below w0.heap.size w0 Q:=sj.trans (b4.mono hB);gi_wp2
 refine⟨trivial,(callsIn_wide.2 (Proofs.Tryz.Builder_WriteByte B b _ 10 _ (.inr l4) G (Bm a m.size))).mono ?_⟩;rintro e M ⟨rfl,z,b5⟩;have E:Lib.byteCells (Dq++List.replicate (2*d) 32++s)++[Value.int .u8 10]=Lib.byteCells (Dq++List.replicate (2*d) 32++s++[10]):=by rw[Jn (Dq++List.replicate (2*d) 32++s) [10]];rfl
 replace z:=E▸z;have k:=m.trans b5;have j:Below w0.heap.size w0 M:=è.trans (b5.mono hB);have S:=KK j jD;clear NA hm Ri XJ hc J I H G F l1 l3 l4 C;rcases l.out with⟨rfl,rfl⟩|⟨ð,tH⟩
 .have zw:=k;have l6:Lib.IsBuilder 124 5 B b (Lib.byteCells (f 0)) M:=by rw[xY];exact .inr z
  have P:=KK j Y3;gi_wp2
  exact tG hB a hb hd w.out u.out t.out f N.out zw l6 _ _ _ _ _ _ _ _ _ _ _ _ _ _ _ _ _ _ _ _ _ _ _ _ _ _ _ _ _ _ _ _ _ _ _ _ _ _ _ _ _ _ _ _ _ _ _ _ _ _ _ _ _
 .have hne:(c != 0)=true:=by simp[ð]
  have O:=Wo d hd;have ñ:=tH B b _ hB (Bm a k.size) j (.inr z);rw[show((d+1:Nat):Int)=(d:Int)+1 from rfl] at ñ;gi_wp2
  refine⟨trivial,(callsIn_wide.2 ñ).mono ?_⟩;rintro e L ⟨⟨v,rfl⟩,A,b6⟩;have zw:=k.trans b6;have D:Below w0.heap.size w0 L:=j.trans (b6.mono hB);have l6:Lib.IsBuilder 124 5 B b (Lib.byteCells (f 0)) L:=by rw[xY];exact A
  have P:=KK D Y3;gi_wp2
  exact tG hB a hb hd w.out u.out t.out f N.out zw l6 _ _ _ _ _ _ _ _ _ _ _ _ _ _ _ _ _ _ _ _ _ _ _ _ _ _ _ _ _ _ _ _ _ _ _ _ _ _ _ _ _ _ _ _ _ _ _ _ _ _ _ _ _
section
variable{U:Gh}{h:Ah}{w0:World}
abbrev sk(fuel d:Nat)(a:Aa):List Aa->(Aq->IT)->Aq->IT:=λIG K Dq=>match IG with
 |[.int .i64 y]=>GR 103 a fuel y (d+1) Dq K
 |_=> .fail
def ZA{run:IT->Ah->Option Jb}{g fuel d:Nat}{a:Aa}(ih:∀(x:Int) (Dq:Aq) (k:Aq->IT) (res:Jb),IT.step (B2 cx) run (GR 103 a fuel x (d+1) Dq k) h=some res->∃Pk,IT.step (B2 cx) run (k Pk) h=some res/\qB g w0 x (d+1) Dq Pk):
  ∀(AT:List (List Aa)) (Dq:Aq) (k:Aq->IT) (res:Jb),IT.step (B2 cx) run (AT.foldr (sk fuel d a) k Dq) h=some res->
   ∃f:Nat->Aq,f 0=Dq/\IT.step (B2 cx) run (k (f AT.length)) h=some res/\∀i,i<AT.length->∃y,AT[i]?=some [.int .i64 y]/\qB g w0 y (d+1) (f i) (f (i+1))
 |[],Dq,k,res,e=>⟨λ_=>Dq,rfl,e,λi hi=>by simp at hi⟩
 |IG::AT,Dq,k,res,e=>by
  simp only[List.foldr_cons] at e;unfold sk at e;split at e
  .rename_i y;obtain⟨b,j,l⟩:=ih _ _ _ _ e;obtain⟨f,f0,f1,f2⟩:=ZA ih AT b k res j;refine⟨λ|0=>Dq|i+1=>f i,rfl,f1,λi hi=>?_⟩;cases i with
   |zero=>
    have hc:qB g w0 y (d+1) Dq (f 0):=by rw[f0];exact l
    exact⟨y,rfl,hc⟩
   |succ i=>obtain⟨c,p,q⟩:=f2 i (by simpa using hi);exact⟨c,by simpa using p,q⟩
  .cases e
def tI{run:IT->Ah->Option Jb}{a:Aa}{x:Int}{d:Nat}{Dq:Aq}{k:Aq->IT}{res:Jb}(fuel:Nat)(e:IT.step (B2 cx) run (GR 103 a fuel x d Dq k) h=some res):∃id,a= .ptr (some (id,0)):=by
 cases fuel with
 |zero=>simp[GR,IT.step] at e
 |succ fuel=>
  simp only[GR,IT.step,EC] at e;cases e0:nK h [a,.int .i64 x] with
  |none=>simp[e0] at e
  |some b=>
   unfold nK at e0;split at e0;.rename_i id x' I8;cases I8;exact⟨id,rfl⟩
   .cases e0
def ZB{n:Nat}(hs:EE cx (IT.run (B2 cx) n))(hi:GO U h w0)(hg:∀g cs,cx.Gq g=some cs->CD U cs g 0){id g:Nat}(hm:U.mu id=some g):
  ∀(fuel:Nat) (x:Int) (d:Nat) (Dq:Aq) (k:Aq->IT) (res:Jb),d+fuel<=1000->IT.step (B2 cx) (IT.run (B2 cx) n) (GR 103 (.ptr (some (id,0))) fuel x d Dq k) h=some res->
   ∃Pk,IT.step (B2 cx) (IT.run (B2 cx) n) (k Pk) h=some res/\qB g w0 x d Dq Pk/\∃p cap ln,w0.cell? ⟨g,0,none⟩=some (.slice p ln cap)/\1<=x/\x<=ln
 |0,x,d,Dq,k,res,_,e=>by simp[GR,IT.step] at e
 |fuel+1,x,d,Dq,k,res,hd,e=>by
  simp only[GR,IT.step,EC] at e;cases e0:nK h [.ptr (some (id,0)),.int .i64 x] with
  |none=>simp[e0] at e
  |some l=>
  obtain⟨h1,r⟩:=l;simp only[e0] at e;obtain⟨i,gn,off,o,cap,row,c,AT,rfl,qp,ll,hc,NA,af,Ri,XJ,hrow,jD,hk⟩:=tE hi hm e0;simp only[IT.step] at e;rw[i] at e;clear i;cases b:IT.run (B2 cx) n (B2 cx 103 [.Cz row]) [] with
  |none=>simp[b] at e
  |some t=>
  simp only[b] at e;split at e
  .rename_i m jw I8;cases I8;split at e
   .split at e
    .rename_i s HV;split at e
     .rename_i hlen;have ih:∀(x:Int) (Dq:Aq) (k:Aq->IT) (res:Jb),IT.step (B2 cx) (IT.run (B2 cx) n) (GR 103 (.ptr (some (id,0))) fuel x (d+1) Dq k) h=some res->∃Pk,IT.step (B2 cx) (IT.run (B2 cx) n) (k Pk) h=some res/\qB g w0 x (d+1) Dq Pk:=λx Dq k res e=>by obtain⟨Pk,p,q,_⟩:=ZB hs hi hg hm fuel x (d+1) Dq k res Ab e;exact⟨Pk,p,q⟩
      have jE:∀W,Below w0.heap.size w0 W->Calls Proofs.Tryz.prog 103 #[.pointer (some ⟨gn,off+(x.toNat-1)*13,none⟩)] W λe W'=>e= .returned (.string ⟨⟨s⟩⟩)/\Below W.heap.size W W':=
       λW hb=>aa hs hi hg b hb hrow
      have Iv:∀a,((c=0/\a=Dq++List.replicate (2*d) 32++s++[10])\/(c≠0/\qB g w0 c (d+1) (Dq++List.replicate (2*d) 32++s++[10]) a))->
        IT.step (B2 cx) (IT.run (B2 cx) n) (AT.foldr (sk fuel d (.ptr (some (id,0)))) k a) h=some res->∃Pk,IT.step (B2 cx) (IT.run (B2 cx) n) (k Pk) h=some res/\qB g w0 x d Dq Pk/\∃p cap ln,w0.cell? ⟨g,0,none⟩=some (.slice p ln cap)/\1<=x/\x<=ln:=by
       intro a jF j;obtain⟨f,f0,f1,f2⟩:=ZA ih AT a k res j;exact⟨f AT.length,f1,si qp ll hc NA af Ri XJ jD hk Ab jE hlen jF f f0 f2,_,_,_,hc,Ri,XJ⟩
      split at e;.rename_i ð;exact Iv _ (.inl ⟨ð,rfl⟩) e
      .rename_i ð;obtain⟨a,p,q⟩:=ih _ _ _ _ e;exact Iv a (.inr ⟨ð,q⟩) p
     .cases e
    .cases e
   .cases e
  .cases e
end
def sm{w0:World}{g ln cap:Nat}{p:Option Addr}{x:Int}{s:Aq}(qp:g<w0.heap.size)(hc:w0.cell? ⟨g,0,none⟩=some (.slice p ln cap))(Ri:1<=x)(XJ:x<=ln)(tH:qB g w0 x 0 [] s):
  Calls Proofs.Tryz.prog 22 #[.pointer (some ⟨g,0,none⟩),.int .i64 x] w0 λe w'=>e= .returned (.string ⟨⟨s⟩⟩)/\Below w0.heap.size w0 w':=by
 have b:decide (1<=x/\x<=ln)=true:=Bf ⟨Ri,XJ⟩;have aCm:(w0.alloc (.cells #[.pointer none,.slice none 0 0] 124)).heap[w0.heap.size]?=some (.cells #[.pointer none,.slice none 0 0] 124 (0,0)):=World.alloc_heap_new w0 _;have QZ:Below w0.heap.size w0 (w0.alloc (.cells #[.pointer none,.slice none 0 0] 124)):=(Below.refl _ w0).alloc (Af _) _;have l1:Lib.IsBuilder 124 5 w0.heap.size w0.heap.size (Lib.byteCells []) (w0.alloc (.cells #[.pointer none,.slice none 0 0] 124)):=
  .inl ⟨Af _,.slice none 0 0,aCm,World.ownsRow_nil _ _ _ _,by simp[Value.ownBlock]⟩
 have SY:=tH w0.heap.size w0.heap.size _ (Af _) Aw QZ l1;rw[show((0:Nat):Int)=0 from rfl] at SY;refine(callsIn_wide (n:=5)).1 ?_;refine callsIn_of_wp Proofs.Tryz.func22 rfl trivial ?_ rfl;simp only[Proofs.Tryz.ntmps22,BP,AU,BK,Nat.reduceAdd,Nat.reduceSub,I4,I5,K4,Jy,BG,CP];gi_wp2
 refine⟨trivial,(callsIn_wide.2 (Wn g _ ln cap x _ hc)).mono ?_⟩;rintro e w' ⟨rfl,rfl⟩;rw[b];gi_wp2
 refine⟨trivial,(callsIn_wide.2 SY).mono ?_⟩;rintro e c ⟨⟨v,rfl⟩,a,b2⟩;gi_wp2
 refine⟨trivial,(callsIn_wide.2 (Proofs.Tryz.Builder_String_any w0.heap.size w0.heap.size s _ a (by have:=b2.size;have:=QZ.size;omega))).mono ?_⟩;rintro e W3 ⟨rfl,b3⟩;gi_wp2
 refine bodyPost_ret (results_tmp rfl _ _ _) rfl ?_;exact⟨rfl,(QZ.trans b2).trans b3⟩
def sn{h:Ah}(n:Nat)(hs:EE cx (IT.run (B2 cx) n))(args:List Aa)(r:Aa)(h':Ah)(AE:IT.step (B2 cx) (IT.run (B2 cx) n) (iZ 103 args) h=some (.ret,[r],h')):
  (∃fn c,cx.P.funcs[Ez 22]?=some fn/\(fn.name== "runtime.NumGoroutine")=false/\fn.body=some c)/\
  ∀(U:Gh) (w:World) (cargs:Array Value),GO U h w->(∀g cs,cx.Gq g=some cs->CD U cs g 0)->AS U args cargs.toList->
   Calls cx.P (Ez 22) cargs w λe w'=>match e with
    | .returned v=>∃d,GO d h' w'/\KF U w d w'/\Bz d r v/\(cx.IJ 22=true->∃s c,HY d w.heap.size w' s c v r)
    |_=>False:=by
 refine⟨⟨_,_,Proofs.Tryz.func22,rfl,rfl⟩,λU w cargs hi hg ha=>?_⟩;have aCn:∃id x,args=[.ptr (some (id,0)),.int .i64 x]:=by
  unfold iZ at AE;split at AE;.rename_i a x;obtain⟨id,rfl⟩:=tI _ AE;exact⟨id,x,rfl⟩
  .cases AE
 obtain⟨id,x,rfl⟩:=aCn;obtain⟨v0,us,ke,⟨g,hm,rfl⟩,i,zn,rfl,rfl,hnil⟩:=ha;cases hnil;have b:cargs=#[.pointer (some ⟨g,0,none⟩),.int .i64 x]:=by apply GC;simpa using ke
 subst b;simp only[iZ] at AE;obtain⟨Dq,f,tH,p,cap,ln,hc,Ri,XJ⟩:=ZB hs hi hg hm 100 x 0 [] _ _ Ab AE;cases f;refine(sm (Db hc) hc Ri XJ tH).mono λe w' he=>?_;obtain⟨rfl,hb⟩:=he;obtain⟨YM,Pf⟩:=hi.KJ hb;exact⟨U,YM,Pf,rfl,λe=>by cases e⟩
end Go.Am
end
section
namespace Go.Am
open Go
def ag:Xz cx:=by
 refine⟨λf hf=>?_,λf p hp n hs args h r h' AE=>?_⟩
 .simp only[cx,ß] at hf;split at hf;.exact nN
  .cases hf
 .simp only[cx,la] at hp;split at hp;.cases hp;exact sn n hs args r h' AE
  .cases hp;exact zZ n args r h' AE
  .cases hp;exact zX n hs args r h' AE
  .cases hp
end Go.Am
end
