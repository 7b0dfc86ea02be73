/- Lemmas -/
import Derived.Test.YtjjnhgoknielgaaGreatDoorW15
import Derived.RangeFuncBox
import Derived.OwnWalkIn
import Derived.TacticsInMore
import Derived.LoopNIn
import Derived.Sort.LoopGhostIn
set_option linter.all false
set_option maxHeartbeats 0
set_option maxRecDepth 100000
section
namespace Go.Am
open Go Go.RowKit Go.Shelf
def cZ(ga:Nat)(p:Option Addr)(n cap:Nat)(x:Int)(w:World)(hc:w.cell? ⟨ga,0,none⟩=some (.slice p n cap)):
  Calls Proofs.Tryz.prog 22 #[.pointer (some ⟨ga,0,none⟩),.int .i64 x] w λe w'=>e= .returned (.bool (decide (1<=x/\x<=n)))/\w=w':=by
 go_enter Proofs.Tryz.func22,Proofs.Tryz.ntmps22
 go_wp2
 all_goals refine bodyPost_ret (results_tmp rfl _ _ _) rfl ?_
 all_goals simp_all
 all_goals omega
def aJy(ga gn off n cap:Nat)(x:Int)(w:World)(hc:w.cell? ⟨ga,0,none⟩=some (.slice (some ⟨gn,off,none⟩) n cap))(h1:1<=x)(h2:x<=n)(QD:n<=cap)(hm:cap<=maxLen):
  Calls Proofs.Tryz.prog 24 #[.pointer (some ⟨ga,0,none⟩),.int .i64 x] w λe w'=>e= .returned (.pointer (some ⟨gn,off+(x.toNat-1)*13,none⟩))/\w=w':=by
 have hb:maxLen<=9223372036854775807:=Az;have hw:wrap64 (x-1)=x-1:=Go.IntWalk.wrap64_in _ ⟨Ac,Ac⟩;go_enter Proofs.Tryz.func24,Proofs.Tryz.ntmps24
 go_wp2
 all_goals refine bodyPost_ret (results_tmp rfl _ _ _) rfl ?_
 all_goals exact⟨rfl,rfl⟩
def aJz(ga:Nat)(x:Int)(w:World):
  Calls Proofs.Tryz.prog 184 #[.pointer (some ⟨ga,0,none⟩),.int .i64 x,.bool true] w λe w'=>e= .returned (.func (.func 236) #[] #[.pointer (some ⟨w.heap.size+1,0,none⟩),.pointer (some ⟨w.heap.size,0,none⟩),.pointer (some ⟨w.heap.size+1+1,0,none⟩)])/\
   w'=((w.alloc (.cells #[.pointer (some ⟨ga,0,none⟩)] 36)).alloc (.cells #[.int .i64 x] 3)).alloc (.cells #[.bool true] 4):=by
 have a:∀(fn:Fn) (first cap:Array Value) (w:World),(Instr.makeFunc fn first cap).run Proofs.Tryz.prog w= .ok (.func fn first cap) w:=λ_ _ _ _=>rfl;go_enter Proofs.Tryz.func184,Proofs.Tryz.ntmps184
 go_wp2
 go_ret
 exact⟨rfl,rfl⟩
def uD{cs:List Ab}{off n:Nat}{up:Int}{k:Nat}{b:Bool}(h:MN cs off n up k 0=some b):b=false:=by cases k<;>simp[MN] at h<;>exact h
def uE{cs:List Ab}{off n:Nat}{up x:Int}{k:Nat}{b:Bool}(h:MN cs off n up k x=some b)(hx:x≠0):∃k',k=k'+1/\
  ((x=up/\b=true)\/(x≠up/\1<=x/\x<=n/\∃p q,Ho cs off x 1=some p/\Ho cs off x 12=some q/\MN cs off n up k' (if p=0 then q else p)=some b)):=by
 cases k with
 |zero=>
  rw[MN] at h;. cases h
  .exact λe=>hx e
 |succ k=>
  refine⟨k,rfl,?_⟩;rw[MN] at h
  .split at h;.rename_i e;cases h;exact .inl ⟨e,rfl⟩
   .rename_i e;split at h
    .rename_i hr;split at h;.rename_i p q c a;exact .inr ⟨e,hr.1,hr.2,p,q,c,a,h⟩
     .cases h
    .cases h
  .exact λe=>hx e
structure oN(Ba Bo ga gn off n cap:Nat)(cs:List Ab)(W:World):Prop where
 a:W.cell? ⟨Ba,0,none⟩=some (.pointer (some ⟨ga,0,none⟩))
 o:W.cell? ⟨Bo,0,none⟩=some (.bool true)
 c:W.cell? ⟨ga,0,none⟩=some (.slice (some ⟨gn,off,none⟩) n cap)
 x:∀(h:Int) (k:Nat) (v:Int),1<=h->h<=n->(k=1\/k=12)->Ho cs off h k=some v->W.cell? ⟨gn,off+(h.toNat-1)*13+k,none⟩=some (.int .i64 v)
def oN.Pm{Ba Bo ga gn off n cap:Nat}{cs:List Ab}{A B:World}(h:oN Ba Bo ga gn off n cap cs A)(hk:∀b,b=Ba\/b=Bo\/b=ga\/b=gn->B.heap[b]?=A.heap[b]?):oN Ba Bo ga gn off n cap cs B:=
 ⟨by rw[CV (hk _ AB)];exact h.a,by rw[CV (hk _ AB)];exact h.o,by rw[CV (hk _ AB)];exact h.c,
  λx k v h1 h2 h3 d=>by rw[CV (hk _ AB)];exact h.x x k v h1 h2 h3 d⟩
def zN{Ba Bo ga gn off n cap a:Nat}{cs:List Ab}{A:World}{u:Value}{J:World->Prop}(c:∀A B row,J A->A.grownBy B row->(∀r,row=some r->r=a)->J B)
  (hd:∀b,b=Ba\/b=Bo\/b=ga\/b=gn->b≠a) (hs:oN Ba Bo ga gn off n cap cs A) (hc:A.cell? ⟨a,0,none⟩=some u) (hf:A.frozen? ⟨a,0,none⟩=false) (hj:J A) (v:Value):
  oN Ba Bo ga gn off n cap cs (A.setCell ⟨a,0,none⟩ v)/\(A.setCell ⟨a,0,none⟩ v).cell? ⟨a,0,none⟩=some v/\(A.setCell ⟨a,0,none⟩ v).frozen? ⟨a,0,none⟩=false/\J (A.setCell ⟨a,0,none⟩ v):=
 ⟨hs.Pm λb hb=>Below.heap_setCell _ _ _ b (hd b hb),World.cell?_setCell_same _ _ _ hc,by rw[World.frozen?_setCell];exact hf,c _ _ _ hj (grownBy_setCell' A a v) λr e=>by cases e;rfl⟩
def aJA(m l d Ba Bo n₁ ga gn off n cap:Nat)(cs:List Ab)(up:Int)(J F:World->Prop)
  (D:∀A B row,J A->A.grownBy B row->(∀r,row=some r->r=d)->J B)
  (M:∀x W,J W->YieldAt Fence.wide (m-1) Proofs.Tryz.prog l #[.int .i64 x] W λe W'=>(e= .returned (.bool true)/\J W'/\Below n₁ W W'/\x≠up)\/(e= .returned (.bool false)/\F W'/\x=up))
  (hd:∀b,b=Ba\/b=Bo\/b=ga\/b=gn->b<n₁/\b≠d) (j:d<n₁) (QD:n<=cap) (hm:cap<=maxLen)
  (W:World) (s:Int) (hs:oN Ba Bo ga gn off n cap cs W) (u:W.cell? ⟨d,0,none⟩=some (.int .i64 s)) (hf:W.frozen? ⟨d,0,none⟩=false)
  (fuel:Nat) (b:Bool) (hcl:MN cs off n up fuel s=some b) (h0:J W):
  CallsIn Fence.wide m Proofs.Tryz.prog 236 #[.func (.yield l) #[] #[],.pointer (some ⟨d,0,none⟩),.pointer (some ⟨Ba,0,none⟩),.pointer (some ⟨Bo,0,none⟩)] W λe W'=>(∃v,e= .returned v)/\((b=false/\J W')\/(b=true/\F W')):=by
 refine callsIn_of_wp Proofs.Tryz.func236 rfl trivial ?_ rfl;simp only[Proofs.Tryz.ntmps236,B8,AJ,AZ,Nat.reduceAdd,Nat.reduceSub,K9,La,NC,LQ,Bq,BD];gi_wp2
 gi_loopg [] fuel (λk wr=>∃x,MN cs off n up k x=some b/\oN Ba Bo ga gn off n cap cs wr/\wr.cell? ⟨d,0,none⟩=some (.int .i64 x)/\wr.frozen? ⟨d,0,none⟩=false/\J wr)
 case atStart=>exact⟨s,hcl,hs,u,hf,h0⟩
 case round=>
  obtain⟨x,hcl,hs,u,hf,hj⟩:=hrel;by_cases hx:x=0
  .subst hx;have:=uD hcl;subst this;gi_wp2
   refine⟨nofun,?_⟩;gi_wp2
   go_end0
   exact⟨⟨_,rfl⟩,hj⟩
  .obtain⟨k',rfl,JP⟩:=uE hcl hx;have hne:(x != 0)=true:=by simp[hx]
   obtain⟨fn,tmps,assign,body,hy,hR⟩:=M x wr hj;gi_wp2
   refine⟨nofun,?_⟩;refine hR.mono ?_;rintro e W3 (⟨rfl,y,sI,g⟩|⟨rfl,i,g⟩)
   .rcases JP with⟨rfl,_⟩|⟨_,h1,h2,p,q,O,N,aEu⟩
    .exact absurd rfl g
    have f:=hs.Pm λb hb=>sI.block b (hd b hb).1;have t:W3.cell? ⟨d,0,none⟩=some (.int .i64 x):=by rw[CV (sI.block d j)];exact u
    have w:W3.frozen? ⟨d,0,none⟩=false:=by rw[<-hf];simp only[World.frozen?,sI.block d j]
    have hp:=f.x x 1 p h1 h2 (.inl rfl) O;have hq:=f.x x 12 q h1 h2 (.inr rfl) N;have Q:=f.a;have P:=f.o;have I:¬Bo=d:=(hd Bo AB).2;have H:¬gn=d:=(hd gn AB).2;gi_wp2
    refine⟨trivial,nofun,(callsIn_wide.2 (aJy ga gn off n cap x _ f.c h1 h2 QD hm)).mono ?_⟩;rintro e w' ⟨rfl,rfl⟩;obtain⟨z,E,z4,C⟩:=zN D (λb hb=>(hd b hb).2) f t w y (.int .i64 p);by_cases h:p=0
    .subst h;obtain⟨G,R,z5,K⟩:=zN D (λb hb=>(hd b hb).2) z E z4 C (.int .i64 q);gi_wp2
     gi_roundg k'
     case measure=>omega
     case rel=>exact⟨q,aEu,G,R,z5,K⟩
    .have L:(p==0)=false:=by simp[h]
     gi_wp2
     gi_roundg k'
     case measure=>omega
     case rel=>exact⟨p,by rw[Aa h] at aEu;exact aEu,z,E,z4,C⟩
   .rcases JP with⟨_,rfl⟩|⟨aN0,_⟩
    .gi_wp2
     go_end0
     exact⟨⟨_,rfl⟩,i⟩
    .exact absurd g aN0
def aEw(n₁:Nat)(up:Int)(I a:World->Prop)(x:Int)(W:World):Exit->Act->World->Prop
 | .normal,_,W'=>KeepsOthers W W'/\Below n₁ W W'/\I W'/\x≠up
 | .ret,_,W'=>KeepsOthers W W'/\a W'/\x=up
 | .exit _,_,_=>False
 | .goto _,_,_=>False
 | .panic _,_,_=>False
 | .outgrown,_,_=>False
def gS{P:Program}{n gf:Nat}{lb:Array Value}{g:Operand}{ps:Array Tmp}{assign body:Code}{Q:Exit->Act->World->Prop}{a:Act}{w:World}(j:Nat)(b:Bool)(up:Int)
  (hg:a.eval g= .func (.func gf) #[] lb) (C:∀args w,(callFunc gf args).run P w= .ok (.enter gf args) w) (z:j<w.heap.size)
  (aEx:∀(l:Nat) (J u:World->Prop) (W:World),Below w.heap.size w W->(∀A B row,J A->A.grownBy B row->(∀r,row=some r->r=j)->J B)->
   (∀x W1,J W1->YieldAt Fence.wide (n-1 -1) P l #[.int .i64 x] W1 λe W'=>(e= .returned (.bool true)/\J W'/\Below w.heap.size W1 W'/\x≠up)\/(e= .returned (.bool false)/\u W'/\x=up))->J W->
   CallsIn Fence.wide (n-1) P gf (#[.func (.yield l) #[] #[]]++lb) W λe W'=>(∃v,e= .returned v)/\((b=false/\J W')\/(b=true/\u W')))
  (k:ps.size=1) (I i:World->Prop) (hI:∀A B row,I A->A.grownBy B row->(∀r,row=some r->r=j\/w.heap.size<=r)->I B)
  (hIx:∀A B row,i A->A.grownBy B row->(∀r,row=some r->r=j\/w.heap.size<=r)->i B) (h0:I w) (a₁:Int->Act)
  (hassign:∀(l:Nat) (x:Int) (W:World) (K:Act->World->Prop),K (a₁ x) W->
   assign.wpIn (Fence.wide.inRound l) (n-1 -1) P (Exit.then K (λ_ _ _=>False)) {tmps:=(ps.zip #[.int .i64 x]).foldl (λt (p,v)=>t.setIfInBounds p v) a.tmps,defers:=[]} W)
  (Yo:∀(l:Nat) (x:Int) (W:World),I W->body.wpIn (Fence.wide.inRound l) (n-1 -1) P (aEw w.heap.size up I i x W) (a₁ x) W)
  (À:∀(D:Nat) (W:World),b=false->I W->W.heap[D]?=some (.deferred (some []))->w.heap.size<=D->Q .normal {a with defers:={target:= .collected D,args:=#[]}::a.defers} W)
  (Á:∀(D:Nat) (W:World),b=true->i W->W.heap[D]?=some (.deferred (some []))->w.heap.size<=D->Code.ret.wpIn Fence.wide n P Q {a with defers:={target:= .collected D,args:=#[]}::a.defers} W):
  (Code.rangeFunc g ps assign body).wpIn Fence.wide n P Q a w:=by
 refine wpIn_rangeFunc ?_;intro fn y9;have hro:Fence.wide.round=none:=rfl;rw[hro];obtain⟨rec,Wx⟩:∃rec:LoopState->Option Code->Loop,rec=λst y=>{state:=st,pending:=y,fn,tmps:=a.tmps,params:=ps,assign,body,defers:=w.heap.size}:=⟨_,rfl⟩;obtain⟨W1,c⟩:∃W1,(w.alloc (.deferred (some []))).alloc (.loop (rec .ready none))=W1:=⟨_,rfl⟩;have m:W1.heap[w.heap.size+1]?=some (.loop (rec .ready none)):=by rw[<-c];have:=World.alloc_heap_new (w.alloc (.deferred (some []))) (.loop (rec .ready none));rwa [World.size_alloc] at this
 have o:W1.heap[w.heap.size]?=some (.deferred (some [])):=by rw[<-c];exact(Below.heap_alloc _ _ _ AB).trans (World.alloc_heap_new w _)
 have q:I W1:=by rw[<-c];exact hI _ _ none (hI _ _ none h0 (World.grownBy_alloc _ _ none) nofun) (World.grownBy_alloc _ _ none) nofun
 have QJ:Below w.heap.size w W1:=by rw[<-c];exact(((Below.refl _ w).alloc (Ad _) _).alloc AB _)
 refine⟨w.heap.size+1,[{target:= .collected w.heap.size,args:=#[]}],W1,{target:= .fn (.func gf) lb,args:=#[.func (.yield (w.heap.size+1)) #[] #[]]},W1,gf,
  #[.func (.yield (w.heap.size+1)) #[] #[]]++lb,W1,?_,?_,?_,?_,nofun,?_⟩
 .rw[<-c,Wx];exact run_enterLoop_outer _ _ _ _ _
 .simp only[resolve,hg];simp[go_sem]
 .intro f' J_;trivial
 .simp[invoke,go_sem,C]
 .refine(aEx (w.heap.size+1)
   (λW=>I W/\W.heap[w.heap.size+1]?=some (.loop (rec .ready none))/\W.heap[w.heap.size]?=some (.deferred (some [])))
   (λW=>i W/\W.heap[w.heap.size+1]?=some (.loop (rec .done (some .ret)))/\W.heap[w.heap.size]?=some (.deferred (some [])))
   W1 QJ
   (λA B row hs hg' hr=>⟨hI A B row hs.1 hg' (λr e=> .inl (hr r e)),(hg'.block _ (AU.1 hs.2.1).1 (λe=>by have:=hr _ e.symm;omega)).trans hs.2.1,
    (hg'.block _ (AU.1 hs.2.2).1 (λe=>by have:=hr _ e.symm;omega)).trans hs.2.2⟩)
   ?_ ⟨q,m,o⟩).mono ?_
  .rintro x W ⟨hi,hl,hk⟩;have hlt:w.heap.size+1<W.heap.size:=(AU.1 hl).1;have hy:=run_yield (P:=P) (args:=#[.int .i64 x]) hl (by rw[Wx];exact k.symm);rw[Wx] at hy;refine⟨fn,_,assign,body,hy,roundIn_of_wpIn y9 (hassign _ x W _ ⟨_,run_beginRound hl (by rw[Wx]),?_⟩)⟩;have uB:(W.putObj (w.heap.size+1) (.loop {rec .ready none with state:= .busy})).heap[w.heap.size+1]?=some (.loop {rec .ready none with state:= .busy}):=World.putObj_heap_same hlt;have UC:(W.putObj (w.heap.size+1) (.loop {rec .ready none with state:= .busy})).heap[w.heap.size]?=some (.deferred (some [])):=(World.putObj_heap_other Ac).trans hk;have H_:Below w.heap.size W (W.putObj (w.heap.size+1) (.loop {rec .ready none with state:= .busy})):=belowK_b (Ad _) W _ _ _ Ac hl rfl rfl;refine wpIn_mono (Yo _ x _ (hI _ _ _ hi (grownBy_putObj' W _ _) (λr e=> .inr (by cases e;omega)))) ?_;have If:∀(jump:Option Code) (W3:World),KeepsOthers (W.putObj (w.heap.size+1) (.loop {rec .ready none with state:= .busy})) W3->
     (Instr.endRound (w.heap.size+1) jump).run P W3= .ok (.bool jump.isNone) (W3.putObj (w.heap.size+1) (.loop (rec (if jump.isNone then .ready else .done) jump)))/\
     W3.heap[w.heap.size+1]?=some (.loop {rec .ready none with state:= .busy})/\
     (W3.putObj (w.heap.size+1) (.loop (rec (if jump.isNone then .ready else .done) jump))).heap[w.heap.size+1]?=some (.loop (rec (if jump.isNone then .ready else .done) jump))/\
     (W3.putObj (w.heap.size+1) (.loop (rec (if jump.isNone then .ready else .done) jump))).heap[w.heap.size]?=some (.deferred (some [])):=λjump W3 sI=>by
    have xm:=sI.same _ _ uB rfl;have:=run_endRound (P:=P) jump xm;rw[Wx] at this⊢;exact⟨this,by rw[Wx] at xm;exact xm,World.putObj_heap_same (AU.1 xm).1,(World.putObj_heap_other Ac).trans (sI.same _ _ UC rfl)⟩
   rintro e a3 W3 hp;cases e with
   |normal=>obtain⟨sI,aN2,h,hne⟩:=hp;obtain⟨hr,xm,d,f⟩:=If none W3 sI;exact⟨_,_,hr,.inl ⟨rfl,⟨hI _ _ _ h (grownBy_putObj' W3 _ _) (λr e=> .inr (by cases e;omega)),d,f⟩,(H_.trans aN2).trans (belowK_b (Ad _) W3 _ _ _ Ac xm rfl rfl),hne⟩⟩
   |ret=>obtain⟨sI,h,he⟩:=hp;obtain⟨hr,xm,d,f⟩:=If (some .ret) W3 sI;exact⟨_,_,hr,.inr ⟨rfl,⟨hIx _ _ _ h (grownBy_putObj' W3 _ _) (λr e=> .inr (by cases e;omega)),d,f⟩,he⟩⟩
   |exit id=>exact hp.elim
   |goto t=>exact hp.elim
   |panic E=>exact hp.elim
   |outgrown=>exact hp.elim
  .rintro e s ⟨⟨v,rfl⟩,⟨hb,hi,hl,hk⟩|⟨hb,hi,hl,hk⟩⟩;.exact⟨none,_,by have:=run_endLoop (P:=P) hl (by rw[Wx];simp);rw[Wx] at this;exact this,À _ _ hb (hI _ _ _ hi (grownBy_putObj' s _ _) (λr e=> .inr (by cases e;omega))) ((World.putObj_heap_other Ac).trans hk) (Ad _)⟩
   .exact⟨some .ret,_,by have:=run_endLoop (P:=P) hl (by rw[Wx];simp);rw[Wx] at this;exact this,Á _ _ hb (hIx _ _ _ hi (grownBy_putObj' s _ _) (λr e=> .inr (by cases e;omega))) ((World.putObj_heap_other Ac).trans hk) (Ad _)⟩
def C0{W:World}{k j:Nat}{v:Value}(o:Obj)(h:W.cell? ⟨k,j,none⟩=some v):(W.alloc o).cell? ⟨k,j,none⟩=some v:=by rw[World.cell?_alloc_past _ _ _ (DV h)];exact h
def L0{W:World}{k j:Nat}{v:Value}(o:Obj)(h:W.cell? ⟨k,j,none⟩=some v):(W.alloc o).frozen? ⟨k,j,none⟩=W.frozen? ⟨k,j,none⟩:=
 World.frozen?_alloc_past _ _ _ (DV h)
def M2(W:World)(v:Value)(t:TypeId):(W.alloc (.cells #[v] t)).cell? ⟨W.heap.size,0,none⟩=some v/\(W.alloc (.cells #[v] t)).frozen? ⟨W.heap.size,0,none⟩=false:=by
 have h:(W.alloc (.cells #[v] t)).heap[W.heap.size]?=some (.cells #[v] t (0,0)):=World.alloc_heap_new W _;constructor;.simp only[World.cell?,h];rfl
 .simp only[World.frozen?,h];rfl
def Yt{A B:World}{row:Option Nat}{k:Nat}{v:Value}(h:A.cell? ⟨k,0,none⟩=some v)(hg:A.grownBy B row)(hr:∀r,row=some r->k≠r):
  B.cell? ⟨k,0,none⟩=some v/\B.frozen? ⟨k,0,none⟩=A.frozen? ⟨k,0,none⟩:=by
 have hb:B.heap[k]?=A.heap[k]?:=hg.block k (DV h) (λe=>hr k e.symm rfl);exact⟨by rw[CV hb];exact h,by simp only[World.frozen?,hb]⟩
def aEy(ga gn off n cap:Nat)(cs:List Ab)(up x:Int)(w:World)(m:ga<w.heap.size)(C:gn<w.heap.size)(QD:n<=cap)(hm:cap<=maxLen)
  (hc:w.cell? ⟨ga,0,none⟩=some (.slice (some ⟨gn,off,none⟩) n cap))
  (hx:∀(h:Int) (k:Nat) (v:Int),1<=h->h<=n->(k=1\/k=12)->Ho cs off h k=some v->w.cell? ⟨gn,off+(h.toNat-1)*13+k,none⟩=some (.int .i64 v))
  (b:Bool) (hcl:MN cs off n up (n+1) x=some b) (gD:1<=up) (TM:up<=n) (UU:1<=x) (Z8:x<=n):
  Calls Proofs.Tryz.prog 109 #[.pointer (some ⟨ga,0,none⟩),.int .i64 up,.int .i64 x] w λe w'=>e= .returned (.bool b)/\Below w.heap.size w w':=by
 refine(callsIn_wide (n:=5)).1 ?_;refine callsIn_of_wp_marks Proofs.Tryz.func109 rfl trivial ?_;simp only[Proofs.Tryz.ntmps109,B8,AJ,AZ,Nat.reduceAdd,Nat.reduceSub,K9,La,NC,LQ,Bq,BD];have q:((w.alloc (.cells #[.int .i64 up] 3)).alloc (.cells #[.bool false] 4)).cell? ⟨ga,0,none⟩=some (.slice (some ⟨gn,off,none⟩) n cap):=by rw[World.cell?_alloc_past _ _ _ EE,World.cell?_alloc_past _ _ _ m];exact hc
 have u:=M2 w (.int .i64 up) 3;have c:=M2 (w.alloc (.cells #[.int .i64 up] 3)) (.bool false) 4;have t:=M2 ((w.alloc (.cells #[.int .i64 up] 3)).alloc (.cells #[.bool false] 4)) (.pointer (some ⟨ga,0,none⟩)) 36;have g:=M2 (((w.alloc (.cells #[.int .i64 up] 3)).alloc (.cells #[.bool false] 4)).alloc (.cells #[.pointer (some ⟨ga,0,none⟩)] 36)) (.int .i64 x) 3;have s:=M2 ((((w.alloc (.cells #[.int .i64 up] 3)).alloc (.cells #[.bool false] 4)).alloc (.cells #[.pointer (some ⟨ga,0,none⟩)] 36)).alloc (.cells #[.int .i64 x] 3)) (.bool true) 4;simp only[World.size_alloc] at c t g s;have H:decide (1<=up/\up<=n)=true:=Ak ⟨gD,TM⟩;have G:decide (1<=x/\x<=n)=true:=Ak ⟨UU,Z8⟩;gi_wp2
 refine⟨trivial,(callsIn_wide.2 (cZ ga _ n cap up _ q)).mono ?_⟩;rintro e w' ⟨rfl,rfl⟩;rw[H];gi_wp2
 refine⟨trivial,(callsIn_wide.2 (cZ ga _ n cap x _ q)).mono ?_⟩;rintro e w' ⟨rfl,rfl⟩;rw[G];gi_wp2
 refine⟨trivial,(callsIn_wide.2 (aJz ga x _)).mono ?_⟩;rintro e w' ⟨rfl,rfl⟩;gi_wp2
 refine gS (gf:=236) (lb:=#[.pointer (some ⟨w.heap.size+1+1+1,0,none⟩),.pointer (some ⟨w.heap.size+1+1,0,none⟩),.pointer (some ⟨w.heap.size+1+1+1+1,0,none⟩)]) (w.heap.size+1+1+1) b up rfl (Go.Proofs.enters_of Proofs.Tryz.func236 AT rfl) AB
  ?aEx rfl
  (λW=>Below w.heap.size w W/\W.cell? ⟨w.heap.size,0,none⟩=some (.int .i64 up)/\W.cell? ⟨w.heap.size+1,0,none⟩=some (.bool false)/\W.frozen? ⟨w.heap.size+1,0,none⟩=false)
  (λW=>Below w.heap.size w W/\W.cell? ⟨w.heap.size+1,0,none⟩=some (.bool true)) ?hI ?hIx ?h0
  (λy=>{tmps:=#[.pointer (some ⟨ga,0,none⟩),.int .i64 up,.int .i64 x,undef,.pointer (some ⟨w.heap.size,0,none⟩),undef,.pointer (some ⟨w.heap.size+1,0,none⟩),.int .i64 y,.pointer (some ⟨ga,0,none⟩),.int .i64 up,.bool true,.bool false,.bool false,.pointer (some ⟨ga,0,none⟩),.int .i64 x,.bool true,.bool false,.bool false,.pointer (some ⟨ga,0,none⟩),.int .i64 x,.func (.func 236) #[] #[.pointer (some ⟨w.heap.size+1+1+1,0,none⟩),.pointer (some ⟨w.heap.size+1+1,0,none⟩),.pointer (some ⟨w.heap.size+1+1+1+1,0,none⟩)],.int .i64 y,undef,undef,undef],defers:=[]})
  ?hassign ?Yo ?À ?Á
 case hI=>rintro A B row ⟨h1,h2,h3,p⟩ hg hr;have KG:=DV h3;have z:=Yt h2 hg (λr e=>by rcases hr r e with rfl|h<;>simp at* <;>omega);have i:=Yt h3 hg (λr e=>by rcases hr r e with rfl|h<;>simp at* <;>omega);exact⟨h1.grown hg Ac (λk e=>by rcases hr k e with rfl|h<;>simp at* <;>omega),z.1,i.1,i.2.trans p⟩
 case hIx=>rintro A B row ⟨h1,h3⟩ hg hr;have KG:=DV h3;have i:=Yt h3 hg (λr e=>by rcases hr r e with rfl|h<;>simp at* <;>omega);exact⟨h1.grown hg Ac (λk e=>by rcases hr k e with rfl|h<;>simp at* <;>omega),i.1⟩
 case h0=>
  refine⟨(((((Below.refl _ w).alloc (Ad _) _).alloc AB _).alloc EE _).alloc EE _).alloc EE _,?_,?_,?_⟩;.exact C0 _ (C0 _ (C0 _ (C0 _ u.1)))
  .exact C0 _ (C0 _ (C0 _ c.1))
  .rw[L0 _ (C0 _ (C0 _ c.1)),L0 _ (C0 _ c.1),L0 _ c.1];exact c.2
 case aEx=>
  intro l J I W hW F E hj;have kk:∀{k j:Nat} {v:Value},(((((w.alloc (.cells #[.int .i64 up] 3)).alloc (.cells #[.bool false] 4)).alloc (.cells #[.pointer (some ⟨ga,0,none⟩)] 36)).alloc (.cells #[.int .i64 x] 3)).alloc (.cells #[.bool true] 4)).cell? ⟨k,j,none⟩=some v->W.cell? ⟨k,j,none⟩=some v:=
   λ{k j v} h=>by rw[CV (hW.block k (DV h))];exact h
  have hs:oN (w.heap.size+1+1) (w.heap.size+1+1+1+1) ga gn off n cap cs W:=
   ⟨kk (C0 _ (C0 _ t.1)),kk s.1,kk (C0 _ (C0 _ (C0 _ q))),λh k v h1 h2 h3 p=>kk (C0 _ (C0 _ (C0 _ (C0 _ (C0 _ (hx h k v h1 h2 h3 p))))))⟩
  refine aJA 4 l (w.heap.size+1+1+1) (w.heap.size+1+1) (w.heap.size+1+1+1+1) _ ga gn off n cap cs up J I F E ?_ AB QD hm W x hs (kk (C0 _ g.1)) ?_ (n+1) b hcl hj;.rintro b (rfl|rfl|rfl|rfl)<;>simp<;>omega
  .have:W.frozen? ⟨w.heap.size+1+1+1,0,none⟩=_:=World.frozen?_of_block (hW.block (w.heap.size+1+1+1) AB);rw[this,L0 _ g.1];exact g.2
 case hassign=>
  intro l y W K d;have aN4:=Oper.semAt_some l;gi_wp2
  exact d
 case Yo=>
  rintro l y W ⟨hb,aL,Mx,xc⟩;have aN4:=Oper.semAt_some l;gi_wp2
  .rename_i he;obtain rfl:y=up:=eq_of_beq he;exact⟨KeepsOthers.setCell _ _ _,⟨hb.setCell (F6 _) _,World.cell?_setCell_same _ _ _ Mx⟩,rfl⟩
  .rename_i he;exact⟨KeepsOthers.refl _,Below.refl _ _,⟨hb,aL,Mx,xc⟩,λe=>by subst e;simp at he⟩
 case À=>
  rintro D W rfl ⟨hb,aL,Mx,xc⟩ d o;gi_wp2
  have f:=(KeepsOthers.setCell W ⟨w.heap.size+1,0,none⟩ (.bool false)).same D _ d rfl;have a:=cell_kept (World.cell?_setCell_same W ⟨w.heap.size+1,0,none⟩ (.bool false) Mx) (grownBy_putObj' _ D (.deferred none)) (λr e=>by cases e;exact⟨_,f,rfl⟩);refine⟨AB,.inl ⟨_,_,rfl,run_takeDeferred f,?_⟩⟩;refine⟨.bool false,?_,rfl,(hb.setCell (F6 _) _).grown (grownBy_putObj' _ D _) (by have:=DV Mx;simp;omega) (λk e=>by cases e;simp at o;omega)⟩;simp[results,Proofs.Tryz.f109,go_sem,a]
 case Á=>
  rintro D W rfl ⟨hb,Mx⟩ d o;gi_wp2
  have a:=cell_kept Mx (grownBy_putObj' _ D (.deferred none)) (λr e=>by cases e;exact⟨_,d,rfl⟩);refine⟨AB,.inl ⟨_,_,rfl,run_takeDeferred d,?_⟩⟩;refine⟨.bool true,?_,rfl,hb.grown (grownBy_putObj' _ D _) (by have:=DV Mx;omega) (λk e=>by cases e;simp at o;omega)⟩;simp[results,Proofs.Tryz.f109,go_sem,a]
def Yu(ga:Nat)(p:Option Addr)(n cap:Nat)(up x:Int)(w:World)(hc:w.cell? ⟨ga,0,none⟩=some (.slice p n cap))(ho:¬(1<=up/\up<=n/\1<=x/\x<=n)):
  Calls Proofs.Tryz.prog 109 #[.pointer (some ⟨ga,0,none⟩),.int .i64 up,.int .i64 x] w λe w'=>e= .returned (.bool false)/\Below w.heap.size w w':=by
 have c:((w.alloc (.cells #[.int .i64 up] 3)).alloc (.cells #[.bool false] 4)).cell? ⟨ga,0,none⟩=some (.slice p n cap):=C0 _ (C0 _ hc);have a:=M2 (w.alloc (.cells #[.int .i64 up] 3)) (.bool false) 4;simp only[World.size_alloc] at a;have hb:Below w.heap.size w ((w.alloc (.cells #[.int .i64 up] 3)).alloc (.cells #[.bool false] 4)):=((Below.refl _ w).alloc (Ad _) _).alloc AB _;refine(callsIn_wide (n:=5)).1 ?_;refine callsIn_of_wp Proofs.Tryz.func109 rfl trivial ?_ rfl;simp only[Proofs.Tryz.ntmps109,B8,AJ,AZ,Nat.reduceAdd,Nat.reduceSub,K9,La,NC,LQ,Bq,BD];by_cases h1:1<=up/\up<=n
 .have b:decide (1<=up/\up<=n)=true:=Ak h1;have d:decide (1<=x/\x<=n)=false:=Ap λh2=>ho ⟨h1.1,h1.2,h2.1,h2.2⟩;gi_wp2
  refine⟨trivial,(callsIn_wide.2 (cZ ga _ n cap up _ c)).mono ?_⟩;rintro e w' ⟨rfl,rfl⟩;rw[b];gi_wp2
  refine⟨trivial,(callsIn_wide.2 (cZ ga _ n cap x _ c)).mono ?_⟩;rintro e w' ⟨rfl,rfl⟩;rw[d];gi_wp2
  refine bodyPost_ret (v:= .bool false) ?_ rfl ⟨rfl,hb⟩;simp[results,Proofs.Tryz.f109,go_sem,a.1]
 .have b:decide (1<=up/\up<=n)=false:=Ap h1;gi_wp2
  refine⟨trivial,(callsIn_wide.2 (cZ ga _ n cap up _ c)).mono ?_⟩;rintro e w' ⟨rfl,rfl⟩;rw[b];gi_wp2
  refine⟨trivial,?_⟩;gi_wp2
  refine bodyPost_ret (v:= .bool false) ?_ rfl ⟨rfl,hb⟩;simp[results,Proofs.Tryz.f109,go_sem,a.1]
section
variable{h:Ai}
def gT{cs:List Ab}{off:Nat}{x:Int}{k:Nat}{v:Int}(e:Ho cs off x k=some v):cs[off+(x.toNat-1)*13+k]?=some (.int .i64 v):=by
 unfold Ho at e;split at e;.rename_i a;cases e;exact a
 .cases e
def aAM(n:Nat)(args:List Ab)(r:Ab)(h':Ai)(AR:IT.step (Cf cx) (IT.run (Cf cx) n) (OJ args) h=some (.ret,[r],h')):
  (∃fn c,cx.P.funcs[Fl 109]?=some fn/\(fn.name== "runtime.NumGoroutine")=false/\fn.body=some c)/\
  ∀(U:Gh) (w:World) (cargs:Array Value),It U h w->(∀g cs,cx.HO g=some cs->C8 U cs g 0)->Bc U args cargs.toList->
   Calls cx.P (Fl 109) cargs w λe w'=>match e with
    | .returned v=>∃d,It d h' w'/\Nb U w d w'/\BQ d r v/\(cx.KK 109=true->∃s c,J1 d w.heap.size w' s c v r)
    |_=>False:=by
 refine⟨⟨_,_,Proofs.Tryz.func109,rfl,rfl⟩,λU w cargs hi hg ha=>?_⟩;simp only[OJ,IT.step,Ey] at AR;cases e0:OI h args with
 |none=>simp[e0] at AR
 |some H=>
 obtain⟨h1,J⟩:=H;simp only[e0] at AR;cases AR;have If:∀(b:Bool) (cs:Array Value),h'=h->r= .bool b->Calls Proofs.Tryz.prog 109 cs w (λe w'=>e= .returned (.bool b)/\Below w.heap.size w w')->
   Calls cx.P (Fl 109) cs w λe w'=>match e with
    | .returned v=>∃d,It d h' w'/\Nb U w d w'/\BQ d r v/\(cx.KK 109=true->∃s c,J1 d w.heap.size w' s c v r)
    |_=>False:=by
  rintro b cs rfl rfl hc;refine hc.mono λe w' he=>?_;obtain⟨rfl,hb⟩:=he;obtain⟨cQ,UR⟩:=hi.Ni hb;exact⟨U,cQ,UR,rfl,λe=>by cases e⟩
 unfold OI at e0;split at e0
 .rename_i id up x;obtain⟨v0,us,o,⟨g,hm,rfl⟩,I,q,rfl,rfl,v2,sR,rfl,rfl,hnil⟩:=ha;cases hnil;have a:cargs=#[.pointer (some ⟨g,0,none⟩),.int .i64 up,.int .i64 x]:=by apply Ia;simpa using o
  subst a;split at e0;.rename_i l hc;cases e0;obtain⟨_,y,hy,A⟩:=hi.TL hc hm (j:=0) rfl;cases A;exact If false _ rfl rfl (Yu g none 0 0 up x w hy Ac)
  .rename_i F off len l hc;split at e0
   .rename_i cs hcs;split at e0
    .rename_i hl;obtain⟨_,y,hy,gn,cap,f,rfl,D,⟨K,C⟩,B⟩:=hi.TL hc hm (j:=0) rfl;have m:g<w.heap.size:=DV hy;have i:gn<w.heap.size:=by obtain⟨⟨us,e,fr,E,L⟩,_⟩:=hi.sz gn _ B;exact(AU.1 E).1
     split at e0
     .rename_i hr;cases p:MN cs off len up (len+1) x with
      |none=>simp[p] at e0
      |some b=>simp only[p,BW,BO,Mt] at e0;obtain⟨rfl,rfl⟩:=e0;refine If b _ rfl rfl (aEy g gn off len cap cs up x w m i D C hy (λt k v h1 h2 h3 G=>?_) b p hr.1 hr.2.1 hr.2.2.1 hr.2.2.2);obtain⟨_,z,hz,u⟩:=hi.TL hcs f (gT G);cases u;exact hz
     .rename_i hr;cases e0;exact If false _ rfl rfl (Yu g _ len cap up x w hy hr)
    .cases e0
   .cases e0
  .cases e0
 .cases e0
end
def Qb{T e:TypeId}{B b:Nat}{bs:List Value}{W W':World}(h:Lib.IsBuilder T e B b bs W)(hb:Below W.heap.size W W'):Lib.IsBuilder T e B b bs W':=by
 have key:∀p,Lib.BuilderAt T e B b p bs W->Lib.BuilderAt T e B b p bs W':=λp ⟨hB,v,a,F8,hne⟩=>by refine⟨hB,v,(hb.block b (AU.1 a).1).trans a,?_,hne⟩;exact F8.kept (row:=none) ⟨hb.os,hb.tape,hb.output,hb.size,λk hk _=>hb.block k hk⟩ (Classical.em _)
 exact h.imp (key _) (key _)
def Lx(a b:List UInt8):Lib.byteCells (a++b)=Lib.byteCells a++Lib.byteCells b:=by simp[Lib.byteCells]
def byteCells_length(a:List UInt8):(Lib.byteCells a).length=a.length:=by simp[Lib.byteCells]
def uF(d:Nat):Lib.repeatL [32,32] d=List.replicate (2*d) 32:=by
 induction d with
 |zero=>rfl
 |succ d ih=>rw[Lib.repeatL,ih,(Ac:2*(d+1)=2*d+1+1),LP,LP];rfl
def uG:∀a:Ab,a.NI=true->a.still=true
 | .bool _,_=>rfl
 | .int _ _,_=>rfl
 | .str _,_=>rfl
 |a,h=>by cases a<;>first|rfl|simp[Ab.NI] at h
def VR:∀l:List Ab,l.all Ab.NI=true->Kl l=true
 |[],_=>rfl
 |a::l,h=>by simp only[fN,Bg] at h;simp only[Kl,Bg];exact⟨uG a h.1,VR l h.2⟩
section
variable{U:Gh}{h:Ai}{w:World}
def oO(hi:It U h w){id g:Nat}{cs:List Ab}(hc:h[id]?=some (.cells cs))(hm:U.mu id=some g):∀(n o:Nat),o+n<=cs.length->N1 (CI cs 1 o n)=true->
  (CI cs 1 o n).length=n/\Fj (GK w) (CI cs 1 o n) 1 g o
 |0,o,_,_=>⟨rfl,trivial⟩
 |n+1,o,hl,hs=>by
  have hlt:o<cs.length:=Ac;have a:(cs.drop o).take 1=[cs[o]]:=by rw[AA hlt];rfl
  have mP:Kl ((cs.drop o).take 1)=true/\N1 (CI cs 1 (o+1) n)=true:=by simpa only[CI,N1,Bg] using hs
  obtain⟨p,q⟩:=oO hi hc hm n (o+1) Ac mP.2;rw[a] at mP;have JZ:cs[o].still=true:=by simpa[Kl] using mP.1
  obtain⟨u,hu,h1,hr⟩:=OL hi hc hm (Av hlt);refine⟨by simp[CI,p],?_⟩;simp only[CI,a];exact⟨rfl,⟨⟨u,UT hu h1,BQ.mem hi _ _ JZ hr⟩,trivial⟩,q⟩
def gU(w:World)(b o:Nat)(Bi:List (List Ab)):Prop:=
 ∃v,w.cell? ⟨b,o,none⟩=some v/\((v= .slice none 0 0/\Bi=[])\/
  (∃a c cap,v= .slice (some ⟨a,c,none⟩) Bi.length cap/\Bi.length<=cap/\cap<=maxLen/\a<w.heap.size/\Fj (GK w) Bi 1 a c))
def Â(hi:It U h w){id g:Nat}(hm:U.mu id=some g){x:Int}{h1:Ai}{r:Ab}(e:qt h [.ptr (some (id,0)),.int .i64 x]=some (h1,r)):
  h1=h/\∃gn off n cap row c Bi,r= .tuple [.Cd row,.int .i64 c,.sl 1 Bi]/\g<w.heap.size/\gn<w.heap.size/\w.cell? ⟨g,0,none⟩=some (.slice (some ⟨gn,off,none⟩) n cap)/\n<=cap/\cap<=maxLen/\
   1<=x/\x<=n/\C8 (GK w) row gn (off+(x.toNat-1)*13)/\w.cell? ⟨gn,off+(x.toNat-1)*13+11,none⟩=some (.int .i64 c)/\gU w gn (off+(x.toNat-1)*13+2) Bi:=by
 unfold qt at e;split at e
 .rename_i Gk x' Ld;cases Ld;split at e
  .rename_i nid off n l hc;split at e
   .rename_i cs hcs;split at e
    .rename_i hx;split at e
     .rename_i D C K B A z v t s q mT c b hrow;split at e
      .rename_i JZ;simp only[Kl,Bg,EN] at JZ;obtain⟨s0,W,V,T,S,R,Q,P,O,F,E⟩:=JZ;obtain⟨_,y,hy,gn,cap,f,rfl,N,⟨q2,M⟩,Z⟩:=hi.TL hc hm (j:=0) rfl;have i:gn<w.heap.size:=by obtain⟨⟨us,e,fr,G,p2⟩,_⟩:=hi.sz gn _ Z;exact(AU.1 G).1
       have get:∀(j:Nat) (a:Ab),j<13->[D,C,K,B,A,z,v,t,s,q,mT,.int .i64 c,b][j]?=some a->cs[off+(x.toNat-1)*13+j]?=some a:=λj a hj ha=>by rw[<-hrow,CQ hj,CE] at ha;exact ha
       have key:∀(j:Nat) (a:Ab),j<13->[D,C,K,B,A,z,v,t,s,q,mT,.int .i64 c,b][j]?=some a->a.still=true->∃u,(GK w).I6 gn (off+(x.toNat-1)*13+j)=some u/\BQ (GK w) a u:=λj a hj ha hs=>by obtain⟨u,hu,ho,hr⟩:=OL hi hcs f (get j a hj ha);exact⟨u,UT hu ho,BQ.mem hi _ _ hs hr⟩
       have zO:w.cell? ⟨gn,off+(x.toNat-1)*13+11,none⟩=some (.int .i64 c):=by obtain⟨u,hu,_,hr⟩:=OL hi hcs f (get 11 _ Ac rfl);cases hr;exact hu
       obtain⟨u2,TM,y5,Ng⟩:=OL hi hcs f (get 2 K Ac rfl);have mk:∀(H:Ab),(∃u,(GK w).I6 gn (off+(x.toNat-1)*13+2)=some u/\BQ (GK w) H u)->C8 (GK w) [D,C,H,B,A,z,v,t,s,q,mT,.int .i64 c,b] gn (off+(x.toNat-1)*13):=λH h2=>⟨key 0 D Ac rfl s0,key 1 C Ac rfl W,h2,key 3 B Ac rfl V,key 4 A Ac rfl T,key 5 z Ac rfl S,key 6 v Ac rfl R,key 7 t Ac rfl Q,key 8 s Ac rfl P,key 9 q Ac rfl O,key 10 mT Ac rfl F,key 11 _ Ac rfl rfl,key 12 b Ac rfl E,trivial⟩
       have hg:=DV hy;split at e;.cases e;cases Ng;exact⟨rfl,gn,off,n,cap,_,c,[],rfl,hg,i,hy,N,M,hx.1,hx.2.1,mk _ ⟨_,UT TM y5,rfl⟩,zO,_,TM,.inl ⟨rfl,rfl⟩⟩
       .rename_i Ok o m;split at e
        .rename_i ks zu;split at e
         .rename_i hk;cases e;obtain⟨p,d,I,rfl,L,⟨r2,Y⟩,X⟩:=Ng;obtain⟨k,t2⟩:=oO hi zu I m o Ac hk.2;have J:p<w.heap.size:=by obtain⟨⟨us,e,fr,G,p2⟩,_⟩:=hi.sz p _ X;exact(AU.1 G).1
          refine⟨rfl,gn,off,n,cap,_,c,CI ks 1 o m,rfl,hg,i,hy,N,M,hx.1,hx.2.1,mk _ ⟨_,UT TM y5,⟨p,o,none⟩,d,by rw[k],by rw[k];exact L,.inl rfl,t2⟩,zO,_,TM,.inr ⟨p,o,d,by rw[k],by rw[k];exact L,Y,J,t2⟩⟩
         .cases e
        .cases e
       .cases e
      .cases e
     .cases e
    .cases e
   .cases e
  .cases e
 .cases e
def aAN{n:Nat}(hs:Ft cx (IT.run (Cf cx) n))(hi:It U h w)(hg:∀g cs,cx.HO g=some cs->C8 U cs g 0){row:List Ab}{s:Ah}{h1:Ai}(e:IT.run (Cf cx) n (Cf cx 43 [.Cd row]) []=some (.ret,[.str s],h1))
  {W:World} (hb:Below w.heap.size w W) {gn o:Nat} (hr:C8 (GK w) row gn o):
  Calls Proofs.Tryz.prog 43 #[.pointer (some ⟨gn,o,none⟩)] W λe W'=>e= .returned (.string ⟨⟨s⟩⟩)/\Below W.heap.size W W':=by
 refine((hs.2 43 _ _ _ _ e).2 (GK W) W #[.pointer (some ⟨gn,o,none⟩)] (T_ W) (λg cs a=>C8.mono (oL hb) cs g 0 (C8.mem hi cs g 0 (VR cs (hs.1.1 g cs a)) (hg g cs a)))
  ⟨_,_,rfl,⟨gn,o,rfl,C8.mono (oL hb) row gn o hr⟩,rfl⟩).mono λe W' he=>?_
 cases e with
 |returned v=>obtain⟨b,_,ha,hv,_⟩:=he;cases hv;exact⟨rfl,ha.os,ha.tape,ha.output,ha.size,λk hk=>(ha.Pm k hk (λid=>by simp[GK])).1⟩
 |_=>exact he.elim
end
def aAO{w:World}{b o:Nat}{Bi:List (List Ab)}(h:gU w b o Bi):∃p cap,w.cell? ⟨b,o,none⟩=some (.slice p Bi.length cap)/\Bi.length<=cap/\cap<=maxLen/\
  ∀(i:Nat) (y:Int),Bi[i]?=some [.int .i64 y]->∃a c,p=some ⟨a,c,none⟩/\a<w.heap.size/\w.cell? ⟨a,c+i,none⟩=some (.int .i64 y):=by
 obtain⟨v,hv,⟨rfl,rfl⟩|⟨a,c,cap,rfl,h1,h2,h3,d⟩⟩:=h;.exact⟨none,0,hv,Ad _,Az,λi y hi=>by simp at hi⟩
 .refine⟨_,cap,hv,h1,h2,λi y hi=>⟨a,c,rfl,h3,?_⟩⟩;obtain⟨_,⟨u,hu,hr⟩,_⟩:=Fj.get d hi;cases hr;have:=hu;simp only[GK,RW] at this;simpa using this.1
def oP(l:List UInt8):Lib.strCells ⟨l.toArray⟩=Lib.byteCells l:=by simp[Lib.strCells,Lib.byteCells]
def gV(l:List UInt8):Lib.strCells ⟨⟨l⟩⟩=Lib.byteCells l:=by simp[Lib.strCells,Lib.byteCells]
def uH(i n:Nat)(h:i<n)(hn:n<=9223372036854775807):wrap64 ((i:Int)+1)=((i+1:Nat):Int):=by rw[Go.IntWalk.wrap64_in _ ⟨Ac,Ac⟩];omega
def dA(d:Nat)(h:d<=1000):wrap64 ((d:Int)+1)=((d+1:Nat):Int):=by rw[Go.IntWalk.wrap64_in _ ⟨Ac,Ac⟩];omega
abbrev xn(g:Nat)(w0:World)(x:Int)(d:Nat)(D8 SE:Ah):Prop:=
 ∀(B b:Nat) (W:World),w0.heap.size<=B->B<=W.heap.size->Below w0.heap.size w0 W->Lib.IsBuilder 96 5 B b (Lib.byteCells D8) W->
  Calls Proofs.Tryz.prog 36 #[.pointer (some ⟨g,0,none⟩),.pointer (some ⟨b,0,none⟩),.int .i64 x,.int .i64 d] W λe W'=>(∃v,e= .returned v)/\Lib.IsBuilder 96 5 B b (Lib.byteCells SE) W'/\Below B W W'
def qy{p:Prop}(h:p):Hid p:=h
def Nj{w0 W':World}{k j:Nat}{v:Value}(hb:Below w0.heap.size w0 W')(h:w0.cell? ⟨k,j,none⟩=some v):W'.cell? ⟨k,j,none⟩=some v:=by rw[CV (hb.block k (DV h))];exact h
def uI:Code->Code
 | .seq _ c=>uI c
 | .block _ c=>c
 |c=>c
noncomputable def Ã:Code:=match Proofs.Tryz.f36.body with
 |some c=>uI c
 |none=> .skip
def Ä{w0 W W6:World}{g B b d a:Nat}{p:Option Addr}{Bi:List (List Ab)}(hB:w0.heap.size<=B)(j:B<=W.heap.size)(hb:Below w0.heap.size w0 W)(hd:d<=1000)
  (UC:Bi.length<=a) (sI:a<=maxLen) (h:∀(i:Nat) (y:Int),Bi[i]?=some [.int .i64 y]->∃m ko,p=some ⟨m,ko,none⟩/\m<w0.heap.size/\w0.cell? ⟨m,ko+i,none⟩=some (.int .i64 y))
  (f:Nat->Ah) (hf:∀i,i<Bi.length->∃y,Bi[i]?=some [.int .i64 y]/\xn g w0 y (d+1) (f i) (f (i+1))) (l:Below B W W6) (l6:Lib.IsBuilder 96 5 B b (Lib.byteCells (f 0)) W6)
  (z2 z4 z5 z6 z7 z8 z9 z10 z11 z12 z13 z14 z15 z16 Z Y X z20 V z22 U T S R Q P O N M L K J I H z37 G F E D C A z x w u z51 t z53 s r q o n:Value):
  Ã.wpIn Fence.wide 5 Proofs.Tryz.prog (Exit.inBlock 0<|bodyPost Proofs.Tryz.prog Proofs.Tryz.f36 λe W'=>(∃v,e= .returned v)/\Lib.IsBuilder 96 5 B b (Lib.byteCells (f Bi.length)) W'/\Below B W W')
   {tmps:=#[.pointer (some ⟨g,0,none⟩),.pointer (some ⟨b,0,none⟩),z2,.int .i64 d,z4,z5,z6,z7,z8,z9,z10,z11,z12,z13,z14,z15,z16,Z,Y,X,z20,V,z22,U,T,S,R,Q,P,O,N,M,L,K,J,I,H,z37,G,F,E,D,C,A,z,x,.slice p Bi.length a,.int .i64 Bi.length,.int .i64 0,w,u,z51,t,z53,s,r,q,o,n],defers:=[]} W6:=by
 simp only[Ã,uI,Proofs.Tryz.f36];gi_loopg [48] Bi.length (λk v wr=>∃i,i<=Bi.length/\k=Bi.length-i/\v= .int .i64 (i:Nat)/\Below B W wr/\Lib.IsBuilder 96 5 B b (Lib.byteCells (f i)) wr)
 case atStart=>exact⟨0,Bn _,rfl,rfl,l,l6⟩
 case round=>
  obtain⟨i,hi,rfl,rfl,bbi,li⟩:=hrel;by_cases hlt:i<Bi.length
  .obtain⟨y,hy,aC3⟩:=hf i hlt;obtain⟨m,ko,rfl,hgk,Kv⟩:=h i y hy;have c:Below w0.heap.size w0 wr:=hb.trans (bbi.mono hB);have ci:=Nj c Kv;have aUT:(i:Int)<(Bi.length:Int):=by exact_mod_cast hlt
   have hwi:=uH i _ hlt (Bw UC sI);have hwd:=dA d hd;have WX:=aC3 B b _ hB (Bw j bbi.size) c li;clear aC3 hf h UC sI c li l6 l Kv hy hgk hB j hb;rw[show((d+1:Nat):Int)=(d:Int)+1 from rfl] at WX;gi_wp2
   refine⟨trivial,(callsIn_wide.2 WX).mono ?_⟩;rintro e W7 ⟨⟨v,rfl⟩,l7,b7⟩;gi_wp2
   gi_roundg (Bi.length-(i+1))
   case measure=>exact Nat.sub_lt_sub_left hlt (Uw i)
   case rel=>refine⟨i+1,hlt,rfl,?_,bbi.trans b7,l7⟩;first|rfl|exact B6 (Value.int .i64) hwi
  .obtain rfl:i=Bi.length:=Nat.le_antisymm hi (Nat.le_of_not_lt hlt);gi_wp2
   go_end0
   exact⟨⟨_,rfl⟩,li,bbi⟩
def aEz{w0:World}{g gn off n cap:Nat}{c x:Int}{Bi:List (List Ab)}(V:g<w0.heap.size)(X:gn<w0.heap.size)(hc:w0.cell? ⟨g,0,none⟩=some (.slice (some ⟨gn,off,none⟩) n cap))(QD:n<=cap)(hm:cap<=maxLen)
  (UU:1<=x) (Z8:x<=n) (Te:w0.cell? ⟨gn,off+(x.toNat-1)*13+11,none⟩=some (.int .i64 c)) (hk:gU w0 gn (off+(x.toNat-1)*13+2) Bi)
  {d:Nat} (hd:d<=1000) {D8 j s:Ah}
  (zP:∀W,Below w0.heap.size w0 W->Calls Proofs.Tryz.prog 43 #[.pointer (some ⟨gn,off+(x.toNat-1)*13,none⟩)] W λe W'=>e= .returned (.string ⟨⟨s⟩⟩)/\Below W.heap.size W W')
  (hlen:(D8++List.replicate (2*d) 32++s++[10]).length<=AY)
  (zQ:(c=0/\j=D8++List.replicate (2*d) 32++s++[10])\/(c≠0/\xn g w0 c (d+1) (D8++List.replicate (2*d) 32++s++[10]) j))
  (f:Nat->Ah) (ů:f 0=j) (hf:∀i,i<Bi.length->∃y,Bi[i]?=some [.int .i64 y]/\xn g w0 y (d+1) (f i) (f (i+1))):
  xn g w0 x d D8 (f Bi.length):=by
 intro B b W hB a hb G;obtain⟨p,Q,sX,UC,sI,q⟩:=aAO hk;have h:AY=140737488355328:=rfl;simp only[An,Ic,AJ,AZ] at hlen;have P:2*d<=140737488355328:=by rw[h] at hlen;omega
 have O:(Lib.byteCells D8).length+(⟨(List.replicate (2*d) (32:UInt8)).toArray⟩:ByteArray).size<=140737488355328:=by rw[h] at hlen;rw[byteCells_length];simp only[ByteArray.size,B8,Ic];omega
 have N:(Lib.byteCells (D8++List.replicate (2*d) 32)).length+(⟨⟨s⟩⟩:ByteArray).size<=140737488355328:=by rw[h] at hlen;rw[byteCells_length];simp only[ByteArray.size,An,Ic];show _+s.length<=_;omega
 have M:(Lib.byteCells (D8++List.replicate (2*d) 32++s)).length+1<=140737488355328:=by rw[h] at hlen;rw[byteCells_length];simp only[An,Ic];omega
 have L:d<=9223372036854775807:=Bw hd Az;clear hlen h;have Hline:=qy zP;have o:=qy zQ;have T:=qy hf;have z:=qy q;have C:=qy UC;have A:=qy sI;clear zP zQ hf q hk UC sI;refine(callsIn_wide (n:=5)).1 ?_;refine callsIn_of_wp Proofs.Tryz.func36 rfl trivial ?_ rfl;simp only[Proofs.Tryz.ntmps36,B8,AJ,AZ,Nat.reduceAdd,Nat.reduceSub,K9,La,NC,LQ,Bq,BD];gi_wp2
 refine⟨trivial,(callsIn_wide.2 (aJy g gn off n cap x _ (Nj hb hc) UU Z8 QD hm)).mono ?_⟩;rintro e w' ⟨rfl,rfl⟩;gi_wp2
 refine⟨trivial,(callsIn_wide.2 (Proofs.Tryz.strings_Repeat ⟨#[32,32]⟩ d _ L P)).mono ?_⟩;rintro e W1 ⟨rfl,b1⟩;have QJ:Below w0.heap.size w0 W1:=hb.trans (b1.mono hb.size);have w:Below B W W1:=b1.mono a;have l1:=Qb G b1;have hr:(Lib.repeatL (⟨#[32,32]⟩:ByteArray).data.toList d)=List.replicate (2*d) 32:=uF d;rw[hr];gi_wp2
 refine⟨trivial,(callsIn_wide.2 (Proofs.Tryz.Builder_WriteString B b (Lib.byteCells D8) _ _ l1 O (Bw a w.size))).mono ?_⟩;rintro e W2 ⟨rfl,l2,b2⟩;rw[oP,<-Lx] at l2;have u:=w.trans b2;have Qq:Below w0.heap.size w0 W2:=QJ.trans (b2.mono hB);gi_wp2
 refine⟨trivial,(callsIn_wide.2 (Hline.out _ Qq)).mono ?_⟩;rintro e W3 ⟨rfl,b3⟩;have J:Below w0.heap.size w0 W3:=Qq.trans (b3.mono Qq.size);have t:Below B W W3:=u.trans (b3.mono (Bw a u.size));have l3:=Qb (.inr l2) b3;gi_wp2
 refine⟨trivial,(callsIn_wide.2 (Proofs.Tryz.Builder_WriteString B b _ _ _ l3 N (Bw a t.size))).mono ?_⟩;rintro e Z ⟨rfl,l4,b4⟩;rw[gV,<-Lx] at l4;have r:=t.trans b4;have I:Below w0.heap.size w0 Z:=J.trans (b4.mono hB);gi_wp2
 refine⟨trivial,(callsIn_wide.2 (Proofs.Tryz.Builder_WriteByte B b _ 10 _ (.inr l4) M (Bw a r.size))).mono ?_⟩;rintro e S ⟨rfl,D,b5⟩;have K:Lib.byteCells (D8++List.replicate (2*d) 32++s)++[Value.int .u8 10]=Lib.byteCells (D8++List.replicate (2*d) 32++s++[10]):=by rw[Lx (D8++List.replicate (2*d) 32++s) [10]];rfl
 replace D:=K▸D;have m:=r.trans b5;have k:Below w0.heap.size w0 S:=I.trans (b5.mono hB);have c5:=Nj k Te;clear QD hm UU Z8 hc P O N M L l1 l3 l4 l2;rcases o.out with⟨rfl,rfl⟩|⟨F,Å⟩
 .have l:=m;have l6:Lib.IsBuilder 96 5 B b (Lib.byteCells (f 0)) S:=by rw[ů];exact .inr D
  have Y:=Nj k sX;gi_wp2
  exact Ä hB a hb hd C.out A.out z.out f T.out l l6 _ _ _ _ _ _ _ _ _ _ _ _ _ _ _ _ _ _ _ _ _ _ _ _ _ _ _ _ _ _ _ _ _ _ _ _ _ _ _ _ _ _ _ _ _ _ _ _ _ _ _ _ _
 .have hne:(c != 0)=true:=by simp[F]
  have U:=dA d hd;have aJD:=Å B b _ hB (Bw a m.size) k (.inr D);rw[show((d+1:Nat):Int)=(d:Int)+1 from rfl] at aJD;gi_wp2
  refine⟨trivial,(callsIn_wide.2 aJD).mono ?_⟩;rintro e R ⟨⟨v,rfl⟩,E,b6⟩;have l:=m.trans b6;have H:Below w0.heap.size w0 R:=k.trans (b6.mono hB);have l6:Lib.IsBuilder 96 5 B b (Lib.byteCells (f 0)) R:=by rw[ů];exact E
  have Y:=Nj H sX;gi_wp2
  exact Ä hB a hb hd C.out A.out z.out f T.out l l6 _ _ _ _ _ _ _ _ _ _ _ _ _ _ _ _ _ _ _ _ _ _ _ _ _ _ _ _ _ _ _ _ _ _ _ _ _ _ _ _ _ _ _ _ _ _ _ _ _ _ _ _ _
section
variable{U:Gh}{h:Ai}{w0:World}
abbrev aEC(fuel d:Nat)(a:Ab):List Ab->(Ah->IT)->Ah->IT:=λOk K D8=>match Ok with
 |[.int .i64 y]=>IA 43 a fuel y (d+1) D8 K
 |_=> .fail
def oQ{run:IT->Ai->Option KE}{g fuel d:Nat}{a:Ab}(ih:∀(x:Int) (D8:Ah) (k:Ah->IT) (res:KE),IT.step (Cf cx) run (IA 43 a fuel x (d+1) D8 k) h=some res->∃SE,IT.step (Cf cx) run (k SE) h=some res/\xn g w0 x (d+1) D8 SE):
  ∀(Bi:List (List Ab)) (D8:Ah) (k:Ah->IT) (res:KE),IT.step (Cf cx) run (Bi.foldr (aEC fuel d a) k D8) h=some res->
   ∃f:Nat->Ah,f 0=D8/\IT.step (Cf cx) run (k (f Bi.length)) h=some res/\∀i,i<Bi.length->∃y,Bi[i]?=some [.int .i64 y]/\xn g w0 y (d+1) (f i) (f (i+1))
 |[],D8,k,res,e=>⟨λ_=>D8,rfl,e,λi hi=>by simp at hi⟩
 |Ok::Bi,D8,k,res,e=>by
  simp only[List.foldr_cons] at e;unfold aEC at e;split at e
  .rename_i y;obtain⟨b,j,l⟩:=ih _ _ _ _ e;obtain⟨f,f0,f1,f2⟩:=oQ ih Bi b k res j;refine⟨λ|0=>D8|i+1=>f i,rfl,f1,λi hi=>?_⟩;cases i with
   |zero=>
    have hc:xn g w0 y (d+1) D8 (f 0):=by rw[f0];exact l
    exact⟨y,rfl,hc⟩
   |succ i=>obtain⟨c,p,q⟩:=f2 i (by simpa using hi);exact⟨c,by simpa using p,q⟩
  .cases e
def Æ{run:IT->Ai->Option KE}{a:Ab}{x:Int}{d:Nat}{D8:Ah}{k:Ah->IT}{res:KE}(fuel:Nat)(e:IT.step (Cf cx) run (IA 43 a fuel x d D8 k) h=some res):∃id,a= .ptr (some (id,0)):=by
 cases fuel with
 |zero=>simp[IA,IT.step] at e
 |succ fuel=>
  simp only[IA,IT.step,Ey] at e;cases e0:qt h [a,.int .i64 x] with
  |none=>simp[e0] at e
  |some b=>
   unfold qt at e0;split at e0;.rename_i id x' Ld;cases Ld;exact⟨id,rfl⟩
   .cases e0
def oR{n:Nat}(hs:Ft cx (IT.run (Cf cx) n))(hi:It U h w0)(hg:∀g cs,cx.HO g=some cs->C8 U cs g 0){id g:Nat}(hm:U.mu id=some g):
  ∀(fuel:Nat) (x:Int) (d:Nat) (D8:Ah) (k:Ah->IT) (res:KE),d+fuel<=1000->IT.step (Cf cx) (IT.run (Cf cx) n) (IA 43 (.ptr (some (id,0))) fuel x d D8 k) h=some res->
   ∃SE,IT.step (Cf cx) (IT.run (Cf cx) n) (k SE) h=some res/\xn g w0 x d D8 SE/\∃p cap ln,w0.cell? ⟨g,0,none⟩=some (.slice p ln cap)/\1<=x/\x<=ln
 |0,x,d,D8,k,res,_,e=>by simp[IA,IT.step] at e
 |fuel+1,x,d,D8,k,res,hd,e=>by
  simp only[IA,IT.step,Ey] at e;cases e0:qt h [.ptr (some (id,0)),.int .i64 x] with
  |none=>simp[e0] at e
  |some u=>
  obtain⟨h1,r⟩:=u;simp only[e0] at e;obtain⟨m,gn,off,w,cap,row,c,Bi,rfl,i,j,hc,QD,Ŵ,UU,Z8,hrow,Te,hk⟩:=Â hi hm e0;simp only[IT.step] at e;rw[m] at e;clear m;cases l:IT.run (Cf cx) n (Cf cx 43 [.Cd row]) [] with
  |none=>simp[l] at e
  |some y=>
  simp only[l] at e;split at e
  .rename_i v o Ld;cases Ld;split at e
   .split at e
    .rename_i s Jz;split at e
     .rename_i hlen;have ih:∀(x:Int) (D8:Ah) (k:Ah->IT) (res:KE),IT.step (Cf cx) (IT.run (Cf cx) n) (IA 43 (.ptr (some (id,0))) fuel x (d+1) D8 k) h=some res->∃SE,IT.step (Cf cx) (IT.run (Cf cx) n) (k SE) h=some res/\xn g w0 x (d+1) D8 SE:=λx D8 k res e=>by obtain⟨SE,p,q,_⟩:=oR hs hi hg hm fuel x (d+1) D8 k res Ac e;exact⟨SE,p,q⟩
      have zP:∀W,Below w0.heap.size w0 W->Calls Proofs.Tryz.prog 43 #[.pointer (some ⟨gn,off+(x.toNat-1)*13,none⟩)] W λe W'=>e= .returned (.string ⟨⟨s⟩⟩)/\Below W.heap.size W W':=
       λW hb=>aAN hs hi hg l hb hrow
      have If:∀a,((c=0/\a=D8++List.replicate (2*d) 32++s++[10])\/(c≠0/\xn g w0 c (d+1) (D8++List.replicate (2*d) 32++s++[10]) a))->
        IT.step (Cf cx) (IT.run (Cf cx) n) (Bi.foldr (aEC fuel d (.ptr (some (id,0)))) k a) h=some res->∃SE,IT.step (Cf cx) (IT.run (Cf cx) n) (k SE) h=some res/\xn g w0 x d D8 SE/\∃p cap ln,w0.cell? ⟨g,0,none⟩=some (.slice p ln cap)/\1<=x/\x<=ln:=by
       intro a zQ t;obtain⟨f,f0,f1,f2⟩:=oQ ih Bi a k res t;exact⟨f Bi.length,f1,aEz i j hc QD Ŵ UU Z8 Te hk Ac zP hlen zQ f f0 f2,_,_,_,hc,UU,Z8⟩
      split at e;.rename_i b;exact If _ (.inl ⟨b,rfl⟩) e
      .rename_i b;obtain⟨a,p,q⟩:=ih _ _ _ _ e;exact If a (.inr ⟨b,q⟩) p
     .cases e
    .cases e
   .cases e
  .cases e
end
def aED{w0:World}{g ln cap:Nat}{p:Option Addr}{x:Int}{s:Ah}(a:g<w0.heap.size)(hc:w0.cell? ⟨g,0,none⟩=some (.slice p ln cap))(UU:1<=x)(Z8:x<=ln)(Å:xn g w0 x 0 [] s):
  Calls Proofs.Tryz.prog 29 #[.pointer (some ⟨g,0,none⟩),.int .i64 x] w0 λe w'=>e= .returned (.string ⟨⟨s⟩⟩)/\Below w0.heap.size w0 w':=by
 have b:decide (1<=x/\x<=ln)=true:=Ak ⟨UU,Z8⟩;have aOa:(w0.alloc (.cells #[.pointer none,.slice none 0 0] 96)).heap[w0.heap.size]?=some (.cells #[.pointer none,.slice none 0 0] 96 (0,0)):=World.alloc_heap_new w0 _;have QJ:Below w0.heap.size w0 (w0.alloc (.cells #[.pointer none,.slice none 0 0] 96)):=(Below.refl _ w0).alloc (Ad _) _;have l1:Lib.IsBuilder 96 5 w0.heap.size w0.heap.size (Lib.byteCells []) (w0.alloc (.cells #[.pointer none,.slice none 0 0] 96)):=
  .inl ⟨Ad _,.slice none 0 0,aOa,World.ownsRow_nil _ _ _ _,by simp[Value.ownBlock]⟩
 have WX:=Å w0.heap.size w0.heap.size _ (Ad _) AB QJ l1;rw[show((0:Nat):Int)=0 from rfl] at WX;refine(callsIn_wide (n:=5)).1 ?_;refine callsIn_of_wp Proofs.Tryz.func29 rfl trivial ?_ rfl;simp only[Proofs.Tryz.ntmps29,B8,AJ,AZ,Nat.reduceAdd,Nat.reduceSub,K9,La,NC,LQ,Bq,BD];gi_wp2
 refine⟨trivial,(callsIn_wide.2 (cZ g _ ln cap x _ hc)).mono ?_⟩;rintro e w' ⟨rfl,rfl⟩;rw[b];gi_wp2
 refine⟨trivial,(callsIn_wide.2 WX).mono ?_⟩;rintro e c ⟨⟨v,rfl⟩,l2,b2⟩;gi_wp2
 refine⟨trivial,(callsIn_wide.2 (Proofs.Tryz.Builder_String_any w0.heap.size w0.heap.size s _ l2 (by have:=b2.size;have:=QJ.size;omega))).mono ?_⟩;rintro e W3 ⟨rfl,b3⟩;gi_wp2
 refine bodyPost_ret (results_tmp rfl _ _ _) rfl ?_;exact⟨rfl,(QJ.trans b2).trans b3⟩
def aEE{h:Ai}(n:Nat)(hs:Ft cx (IT.run (Cf cx) n))(args:List Ab)(r:Ab)(h':Ai)(AR:IT.step (Cf cx) (IT.run (Cf cx) n) (zK 43 args) h=some (.ret,[r],h')):
  (∃fn c,cx.P.funcs[Fl 29]?=some fn/\(fn.name== "runtime.NumGoroutine")=false/\fn.body=some c)/\
  ∀(U:Gh) (w:World) (cargs:Array Value),It U h w->(∀g cs,cx.HO g=some cs->C8 U cs g 0)->Bc U args cargs.toList->
   Calls cx.P (Fl 29) cargs w λe w'=>match e with
    | .returned v=>∃d,It d h' w'/\Nb U w d w'/\BQ d r v/\(cx.KK 29=true->∃s c,J1 d w.heap.size w' s c v r)
    |_=>False:=by
 refine⟨⟨_,_,Proofs.Tryz.func29,rfl,rfl⟩,λU w cargs hi hg ha=>?_⟩;have aOb:∃id x,args=[.ptr (some (id,0)),.int .i64 x]:=by
  unfold zK at AR;split at AR;.rename_i a x;obtain⟨id,rfl⟩:=Æ _ AR;exact⟨id,x,rfl⟩
  .cases AR
 obtain⟨id,x,rfl⟩:=aOb;obtain⟨v0,us,f,⟨g,hm,rfl⟩,k,i,rfl,rfl,hnil⟩:=ha;cases hnil;have b:cargs=#[.pointer (some ⟨g,0,none⟩),.int .i64 x]:=by apply Ia;simpa using f
 subst b;simp only[zK] at AR;obtain⟨D8,j,Å,p,cap,ln,hc,UU,Z8⟩:=oR hs hi hg hm 100 x 0 [] _ _ Ac AR;cases j;refine(aED (DV hc) hc UU Z8 Å).mono λe w' he=>?_;obtain⟨rfl,hb⟩:=he;obtain⟨cQ,UR⟩:=hi.Ni hb;exact⟨U,cQ,UR,rfl,λe=>by cases e⟩
end Go.Am
end
section
namespace Go.Am
open Go
def aAP:gK cx:=by
 refine⟨λf hf=>?_,λf p hp n hs args h r h' AR=>?_⟩
 .simp only[cx,aJn] at hf;split at hf;.exact qx
  .cases hf
 .simp only[cx,aCY] at hp;split at hp;.cases hp;exact aEE n hs args r h' AR
  .cases hp;exact aAK n hs args r h' AR
  .cases hp;exact aAM n args r h' AR
  .cases hp
end Go.Am
end
