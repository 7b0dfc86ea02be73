/- Lemmas -/
import Derived.Test.YtdejbjapknkdnaaGreatDoorV15
import Derived.RangeFuncBox
import Derived.OwnWalkIn
import Derived.TacticsInMore
import Derived.LoopNIn
import Derived.Sort.LoopGhostIn
set_option linter.all false
set_option maxHeartbeats 0
set_option maxRecDepth 100000
section
namespace Go.Am
open Go Go.RowKit Go.Shelf
def aZ(ga:Nat)(p:Option Addr)(n cap:Nat)(x:Int)(w:World)(hc:w.cell? ⟨ga,0,none⟩=some (.slice p n cap)):
  Calls Proofs.Tryz.prog 52 #[.pointer (some ⟨ga,0,none⟩),.int .i64 x] w λe w'=>e= .returned (.bool (decide (1<=x/\x<=n)))/\w=w':=by
 go_enter Proofs.Tryz.func52,Proofs.Tryz.ntmps52
 go_wp2
 all_goals refine bodyPost_ret (results_tmp rfl _ _ _) rfl ?_
 all_goals simp_all
 all_goals omega
def aHz(ga gn off n cap:Nat)(x:Int)(w:World)(hc:w.cell? ⟨ga,0,none⟩=some (.slice (some ⟨gn,off,none⟩) n cap))(h1:1<=x)(h2:x<=n)(P4:n<=cap)(hm:cap<=maxLen):
  Calls Proofs.Tryz.prog 57 #[.pointer (some ⟨ga,0,none⟩),.int .i64 x] w λe w'=>e= .returned (.pointer (some ⟨gn,off+(x.toNat-1)*13,none⟩))/\w=w':=by
 have hb:maxLen<=9223372036854775807:=by decide
 have hw:wrap64 (x-1)=x-1:=Go.IntWalk.wrap64_in _ ⟨by omega,by omega⟩;go_enter Proofs.Tryz.func57,Proofs.Tryz.ntmps57
 go_wp2
 all_goals refine bodyPost_ret (results_tmp rfl _ _ _) rfl ?_
 all_goals exact⟨rfl,rfl⟩
def aHA(ga:Nat)(x:Int)(w:World):
  Calls Proofs.Tryz.prog 180 #[.pointer (some ⟨ga,0,none⟩),.int .i64 x,.bool true] w λe w'=>e= .returned (.func (.func 233) #[] #[.pointer (some ⟨w.heap.size+1,0,none⟩),.pointer (some ⟨w.heap.size,0,none⟩),.pointer (some ⟨w.heap.size+1+1,0,none⟩)])/\
   w'=((w.alloc (.cells #[.pointer (some ⟨ga,0,none⟩)] 29)).alloc (.cells #[.int .i64 x] 3)).alloc (.cells #[.bool true] 4):=by
 have hmf:∀(fn:Fn) (first cap:Array Value) (w:World),(Instr.makeFunc fn first cap).run Proofs.Tryz.prog w= .ok (.func fn first cap) w:=λ_ _ _ _=>rfl;go_enter Proofs.Tryz.func180,Proofs.Tryz.ntmps180
 go_wp2
 go_ret
 exact⟨rfl,rfl⟩
def qO{cs:List Aa}{off n:Nat}{up:Int}{k:Nat}{b:Bool}(h:Md cs off n up k 0=some b):b=false:=by cases k<;>simp[Md] at h<;>exact h
def qP{cs:List Aa}{off n:Nat}{up x:Int}{k:Nat}{b:Bool}(h:Md cs off n up k x=some b)(hx:x≠0):∃k',k=k'+1/\
  ((x=up/\b=true)\/(x≠up/\1<=x/\x<=n/\∃p q,GG cs off x 1=some p/\GG cs off x 12=some q/\Md cs off n up k' (if p=0 then q else p)=some b)):=by
 cases k with
 |zero=>
  rw[Md] at h;. cases h
  .exact λe=>hx e
 |succ k=>
  refine⟨k,rfl,?_⟩;rw[Md] at h
  .split at h;.rename_i e;cases h;exact .inl ⟨e,rfl⟩
   .rename_i e;split at h
    .rename_i hr;split at h;.rename_i p q e1 e2;exact .inr ⟨e,hr.1,hr.2,p,q,e1,e2,h⟩
     .cases h
    .cases h
  .exact λe=>hx e
structure lK(Ba Bo ga gn off n cap:Nat)(cs:List Aa)(W:World):Prop where
 a:W.cell? ⟨Ba,0,none⟩=some (.pointer (some ⟨ga,0,none⟩))
 o:W.cell? ⟨Bo,0,none⟩=some (.bool true)
 c:W.cell? ⟨ga,0,none⟩=some (.slice (some ⟨gn,off,none⟩) n cap)
 x:∀(h:Int) (k:Nat) (v:Int),1<=h->h<=n->(k=1\/k=12)->GG cs off h k=some v->W.cell? ⟨gn,off+(h.toNat-1)*13+k,none⟩=some (.int .i64 v)
def lK.OF{Ba Bo ga gn off n cap:Nat}{cs:List Aa}{A B:World}(h:lK Ba Bo ga gn off n cap cs A)(hk:∀b,b=Ba\/b=Bo\/b=ga\/b=gn->B.heap[b]?=A.heap[b]?):lK Ba Bo ga gn off n cap cs B:=
 ⟨by rw[CH (hk _ (by simp))];exact h.a,by rw[CH (hk _ (by simp))];exact h.o,by rw[CH (hk _ (by simp))];exact h.c,
  λx k v h1 h2 h3 h4=>by rw[CH (hk _ (by simp))];exact h.x x k v h1 h2 h3 h4⟩
def wE{Ba Bo ga gn off n cap Bh:Nat}{cs:List Aa}{A:World}{u:Value}{J:World->Prop}(hJ:∀A B row,J A->A.grownBy B row->(∀r,row=some r->r=Bh)->J B)
  (hd:∀b,b=Ba\/b=Bo\/b=ga\/b=gn->b≠Bh) (hs:lK Ba Bo ga gn off n cap cs A) (hc:A.cell? ⟨Bh,0,none⟩=some u) (hf:A.frozen? ⟨Bh,0,none⟩=false) (hj:J A) (v:Value):
  lK Ba Bo ga gn off n cap cs (A.setCell ⟨Bh,0,none⟩ v)/\(A.setCell ⟨Bh,0,none⟩ v).cell? ⟨Bh,0,none⟩=some v/\(A.setCell ⟨Bh,0,none⟩ v).frozen? ⟨Bh,0,none⟩=false/\J (A.setCell ⟨Bh,0,none⟩ v):=
 ⟨hs.OF λb hb=>Below.heap_setCell _ _ _ b (hd b hb),World.cell?_setCell_same _ _ _ hc,by rw[World.frozen?_setCell];exact hf,hJ _ _ _ hj (grownBy_setCell' A Bh v) λr e=>by cases e;rfl⟩
def aHB(m l Bh Ba Bo n₁ ga gn off n cap:Nat)(cs:List Aa)(up:Int)(J Jx:World->Prop)
  (hJ:∀A B row,J A->A.grownBy B row->(∀r,row=some r->r=Bh)->J B)
  (hY:∀x W,J W->YieldAt Fence.wide (m-1) Proofs.Tryz.prog l #[.int .i64 x] W λe W'=>(e= .returned (.bool true)/\J W'/\Below n₁ W W'/\x≠up)\/(e= .returned (.bool false)/\Jx W'/\x=up))
  (hd:∀b,b=Ba\/b=Bo\/b=ga\/b=gn->b<n₁/\b≠Bh) (hBh:Bh<n₁) (P4:n<=cap) (hm:cap<=maxLen)
  (W:World) (x0:Int) (hs:lK Ba Bo ga gn off n cap cs W) (hh:W.cell? ⟨Bh,0,none⟩=some (.int .i64 x0)) (hf:W.frozen? ⟨Bh,0,none⟩=false)
  (fuel:Nat) (b:Bool) (hcl:Md cs off n up fuel x0=some b) (h0:J W):
  CallsIn Fence.wide m Proofs.Tryz.prog 233 #[.func (.yield l) #[] #[],.pointer (some ⟨Bh,0,none⟩),.pointer (some ⟨Ba,0,none⟩),.pointer (some ⟨Bo,0,none⟩)] W λe W'=>(∃v,e= .returned v)/\((b=false/\J W')\/(b=true/\Jx W')):=by
 refine callsIn_of_wp Proofs.Tryz.func233 rfl trivial ?_ rfl;simp only[Proofs.Tryz.ntmps233,BT,AE,AY,Nat.reduceAdd,Nat.reduceSub,KA,KB,Na,Lg,Bw,Cr];gi_wp2
 gi_loopg [] fuel (λk wr=>∃x,Md cs off n up k x=some b/\lK Ba Bo ga gn off n cap cs wr/\wr.cell? ⟨Bh,0,none⟩=some (.int .i64 x)/\wr.frozen? ⟨Bh,0,none⟩=false/\J wr)
 case atStart=>exact⟨x0,hcl,hs,hh,hf,h0⟩
 case round=>
  obtain⟨x,hcl,hs,hh,hf,hj⟩:=hrel;by_cases hx:x=0
  .subst hx;have:=qO hcl;subst this;gi_wp2
   refine⟨nofun,?_⟩;gi_wp2
   go_end0
   exact⟨⟨_,rfl⟩,hj⟩
  .obtain⟨k',rfl,I9⟩:=qP hcl hx;have hne:(x != 0)=true:=by simp[hx]
   obtain⟨fn,tmps,assign,body,hy,hR⟩:=hY x wr hj;gi_wp2
   refine⟨nofun,?_⟩;refine hR.mono ?_;rintro e W3 (⟨rfl,hJ3,oY,hxu⟩|⟨rfl,hJx3,hxu⟩)
   .rcases I9 with⟨rfl,_⟩|⟨_,h1,h2,p,q,e1,e2,aCJ⟩
    .exact absurd rfl hxu
    have hs3:=hs.OF λb hb=>oY.block b (hd b hb).1;have hh3:W3.cell? ⟨Bh,0,none⟩=some (.int .i64 x):=by rw[CH (oY.block Bh hBh)];exact hh
    have hf3:W3.frozen? ⟨Bh,0,none⟩=false:=by rw[<-hf];simp only[World.frozen?,oY.block Bh hBh]
    have hp:=hs3.x x 1 p h1 h2 (.inl rfl) e1;have hq:=hs3.x x 12 q h1 h2 (.inr rfl) e2;have ca3:=hs3.a;have co3:=hs3.o;have nBo:¬Bo=Bh:=(hd Bo (by simp)).2;have ngn:¬gn=Bh:=(hd gn (by simp)).2;gi_wp2
    refine⟨trivial,nofun,(callsIn_wide.2 (aHz ga gn off n cap x _ hs3.c h1 h2 P4 hm)).mono ?_⟩;rintro e w' ⟨rfl,rfl⟩;obtain⟨s4,c4,z4,j4⟩:=wE hJ (λb hb=>(hd b hb).2) hs3 hh3 hf3 hJ3 (.int .i64 p);by_cases hp0:p=0
    .subst hp0;obtain⟨s5,c5,z5,j5⟩:=wE hJ (λb hb=>(hd b hb).2) s4 c4 z4 j4 (.int .i64 q);gi_wp2
     gi_roundg k'
     case measure=>omega
     case rel=>exact⟨q,aCJ,s5,c5,z5,j5⟩
    .have hpf:(p==0)=false:=by simp[hp0]
     gi_wp2
     gi_roundg k'
     case measure=>omega
     case rel=>exact⟨p,by rw[if_neg hp0] at aCJ;exact aCJ,s4,c4,z4,j4⟩
   .rcases I9 with⟨_,rfl⟩|⟨aL7,_⟩
    .gi_wp2
     go_end0
     exact⟨⟨_,rfl⟩,hJx3⟩
    .exact absurd hxu aL7
def aCK(n₁:Nat)(up:Int)(I Ix:World->Prop)(x:Int)(W:World):Exit->Act->World->Prop
 | .normal,_,W'=>KeepsOthers W W'/\Below n₁ W W'/\I W'/\x≠up
 | .ret,_,W'=>KeepsOthers W W'/\Ix W'/\x=up
 | .exit _,_,_=>False
 | .goto _,_,_=>False
 | .panic _,_,_=>False
 | .outgrown,_,_=>False
def dX{P:Program}{n gf:Nat}{lb:Array Value}{g:Operand}{ps:Array Tmp}{assign body:Code}{Q:Exit->Act->World->Prop}{a:Act}{w:World}(Bh:Nat)(b:Bool)(up:Int)
  (hg:a.eval g= .func (.func gf) #[] lb) (eg:∀args w,(callFunc gf args).run P w= .ok (.enter gf args) w) (hBh:Bh<w.heap.size)
  (aCL:∀(l:Nat) (J Jx:World->Prop) (W:World),Below w.heap.size w W->(∀A B row,J A->A.grownBy B row->(∀r,row=some r->r=Bh)->J B)->
   (∀x W1,J W1->YieldAt Fence.wide (n-1 -1) P l #[.int .i64 x] W1 λe W'=>(e= .returned (.bool true)/\J W'/\Below w.heap.size W1 W'/\x≠up)\/(e= .returned (.bool false)/\Jx W'/\x=up))->J W->
   CallsIn Fence.wide (n-1) P gf (#[.func (.yield l) #[] #[]]++lb) W λe W'=>(∃v,e= .returned v)/\((b=false/\J W')\/(b=true/\Jx W')))
  (Ħ:ps.size=1) (I Ix:World->Prop) (hI:∀A B row,I A->A.grownBy B row->(∀r,row=some r->r=Bh\/w.heap.size<=r)->I B)
  (hIx:∀A B row,Ix A->A.grownBy B row->(∀r,row=some r->r=Bh\/w.heap.size<=r)->Ix B) (h0:I w) (a₁:Int->Act)
  (hassign:∀(l:Nat) (x:Int) (W:World) (K:Act->World->Prop),K (a₁ x) W->
   assign.wpIn (Fence.wide.inRound l) (n-1 -1) P (Exit.then K (λ_ _ _=>False)) {tmps:=(ps.zip #[.int .i64 x]).foldl (λt (p,v)=>t.setIfInBounds p v) a.tmps,defers:=[]} W)
  (XN:∀(l:Nat) (x:Int) (W:World),I W->body.wpIn (Fence.wide.inRound l) (n-1 -1) P (aCK w.heap.size up I Ix x W) (a₁ x) W)
  (vz:∀(D:Nat) (W:World),b=false->I W->W.heap[D]?=some (.deferred (some []))->w.heap.size<=D->Q .normal {a with defers:={target:= .collected D,args:=#[]}::a.defers} W)
  (v_:∀(D:Nat) (W:World),b=true->Ix W->W.heap[D]?=some (.deferred (some []))->w.heap.size<=D->Code.ret.wpIn Fence.wide n P Q {a with defers:={target:= .collected D,args:=#[]}::a.defers} W):
  (Code.rangeFunc g ps assign body).wpIn Fence.wide n P Q a w:=by
 refine wpIn_rangeFunc ?_;intro fn jR;have hro:Fence.wide.round=none:=rfl;rw[hro];obtain⟨rec,V8⟩:∃rec:LoopState->Option Code->Loop,rec=λst pe=>{state:=st,pending:=pe,fn,tmps:=a.tmps,params:=ps,assign,body,defers:=w.heap.size}:=⟨_,rfl⟩;obtain⟨W1,hW1⟩:∃W1,(w.alloc (.deferred (some []))).alloc (.loop (rec .ready none))=W1:=⟨_,rfl⟩;have hL1:W1.heap[w.heap.size+1]?=some (.loop (rec .ready none)):=by rw[<-hW1];have:=World.alloc_heap_new (w.alloc (.deferred (some []))) (.loop (rec .ready none));rwa [World.size_alloc] at this
 have hK1:W1.heap[w.heap.size]?=some (.deferred (some [])):=by rw[<-hW1];exact(Below.heap_alloc _ _ _ (by simp)).trans (World.alloc_heap_new w _)
 have hI1:I W1:=by rw[<-hW1];exact hI _ _ none (hI _ _ none h0 (World.grownBy_alloc _ _ none) nofun) (World.grownBy_alloc _ _ none) nofun
 have Qa:Below w.heap.size w W1:=by rw[<-hW1];exact(((Below.refl _ w).alloc (Ab _) _).alloc (by simp) _)
 refine⟨w.heap.size+1,[{target:= .collected w.heap.size,args:=#[]}],W1,{target:= .fn (.func gf) lb,args:=#[.func (.yield (w.heap.size+1)) #[] #[]]},W1,gf,
  #[.func (.yield (w.heap.size+1)) #[] #[]]++lb,W1,?_,?_,?_,?_,nofun,?_⟩
 .rw[<-hW1,V8];exact run_enterLoop_outer _ _ _ _ _
 .simp only[resolve,hg];simp[go_sem]
 .intro f' vg;trivial
 .simp[invoke,go_sem,eg]
 .refine(aCL (w.heap.size+1)
   (λW=>I W/\W.heap[w.heap.size+1]?=some (.loop (rec .ready none))/\W.heap[w.heap.size]?=some (.deferred (some [])))
   (λW=>Ix W/\W.heap[w.heap.size+1]?=some (.loop (rec .done (some .ret)))/\W.heap[w.heap.size]?=some (.deferred (some [])))
   W1 Qa
   (λA B row hs hg' hr=>⟨hI A B row hs.1 hg' (λr e=> .inl (hr r e)),(hg'.block _ (AM.1 hs.2.1).1 (λe=>by have:=hr _ e.symm;omega)).trans hs.2.1,
    (hg'.block _ (AM.1 hs.2.2).1 (λe=>by have:=hr _ e.symm;omega)).trans hs.2.2⟩)
   ?_ ⟨hI1,hL1,hK1⟩).mono ?_
  .rintro x W ⟨hi,hl,hk⟩;have hlt:w.heap.size+1<W.heap.size:=(AM.1 hl).1;have hy:=run_yield (P:=P) (args:=#[.int .i64 x]) hl (by rw[V8];exact Ħ.symm);rw[V8] at hy;refine⟨fn,_,assign,body,hy,roundIn_of_wpIn jR (hassign _ x W _ ⟨_,run_beginRound hl (by rw[V8]),?_⟩)⟩;have lJ:(W.putObj (w.heap.size+1) (.loop {rec .ready none with state:= .busy})).heap[w.heap.size+1]?=some (.loop {rec .ready none with state:= .busy}):=World.putObj_heap_same hlt;have Ua:(W.putObj (w.heap.size+1) (.loop {rec .ready none with state:= .busy})).heap[w.heap.size]?=some (.deferred (some [])):=(World.putObj_heap_other (by omega)).trans hk;have ve:Below w.heap.size W (W.putObj (w.heap.size+1) (.loop {rec .ready none with state:= .busy})):=belowK_b (Ab _) W _ _ _ (by omega) hl rfl rfl;refine wpIn_mono (XN _ x _ (hI _ _ _ hi (grownBy_putObj' W _ _) (λr e=> .inr (by cases e;omega)))) ?_;have Jd:∀(jump:Option Code) (W3:World),KeepsOthers (W.putObj (w.heap.size+1) (.loop {rec .ready none with state:= .busy})) W3->
     (Instr.endRound (w.heap.size+1) jump).run P W3= .ok (.bool jump.isNone) (W3.putObj (w.heap.size+1) (.loop (rec (if jump.isNone then .ready else .done) jump)))/\
     W3.heap[w.heap.size+1]?=some (.loop {rec .ready none with state:= .busy})/\
     (W3.putObj (w.heap.size+1) (.loop (rec (if jump.isNone then .ready else .done) jump))).heap[w.heap.size+1]?=some (.loop (rec (if jump.isNone then .ready else .done) jump))/\
     (W3.putObj (w.heap.size+1) (.loop (rec (if jump.isNone then .ready else .done) jump))).heap[w.heap.size]?=some (.deferred (some [])):=λjump W3 oY=>by
    have wD:=oY.same _ _ lJ rfl;have:=run_endRound (P:=P) jump wD;rw[V8] at this⊢;exact⟨this,by rw[V8] at wD;exact wD,World.putObj_heap_same (AM.1 wD).1,(World.putObj_heap_other (by omega)).trans (oY.same _ _ Ua rfl)⟩
   rintro e a3 W3 hp;cases e with
   |normal=>obtain⟨oY,aL9,hi3,hne⟩:=hp;obtain⟨hr,wD,hl4,qQ⟩:=Jd none W3 oY;exact⟨_,_,hr,.inl ⟨rfl,⟨hI _ _ _ hi3 (grownBy_putObj' W3 _ _) (λr e=> .inr (by cases e;omega)),hl4,qQ⟩,(ve.trans aL9).trans (belowK_b (Ab _) W3 _ _ _ (by omega) wD rfl rfl),hne⟩⟩
   |ret=>obtain⟨oY,hi3,he⟩:=hp;obtain⟨hr,wD,hl4,qQ⟩:=Jd (some .ret) W3 oY;exact⟨_,_,hr,.inr ⟨rfl,⟨hIx _ _ _ hi3 (grownBy_putObj' W3 _ _) (λr e=> .inr (by cases e;omega)),hl4,qQ⟩,he⟩⟩
   |exit id=>exact hp.elim
   |goto t=>exact hp.elim
   |panic ch=>exact hp.elim
   |outgrown=>exact hp.elim
  .rintro e W2 ⟨⟨v,rfl⟩,⟨hb,hi,hl,hk⟩|⟨hb,hi,hl,hk⟩⟩;.exact⟨none,_,by have:=run_endLoop (P:=P) hl (by rw[V8];simp);rw[V8] at this;exact this,vz _ _ hb (hI _ _ _ hi (grownBy_putObj' W2 _ _) (λr e=> .inr (by cases e;omega))) ((World.putObj_heap_other (by omega)).trans hk) (Ab _)⟩
   .exact⟨some .ret,_,by have:=run_endLoop (P:=P) hl (by rw[V8];simp);rw[V8] at this;exact this,v_ _ _ hb (hIx _ _ _ hi (grownBy_putObj' W2 _ _) (λr e=> .inr (by cases e;omega))) ((World.putObj_heap_other (by omega)).trans hk) (Ab _)⟩
def CL{W:World}{k j:Nat}{v:Value}(o:Obj)(h:W.cell? ⟨k,j,none⟩=some v):(W.alloc o).cell? ⟨k,j,none⟩=some v:=by rw[World.cell?_alloc_past _ _ _ (DF h)];exact h
def Lq{W:World}{k j:Nat}{v:Value}(o:Obj)(h:W.cell? ⟨k,j,none⟩=some v):(W.alloc o).frozen? ⟨k,j,none⟩=W.frozen? ⟨k,j,none⟩:=
 World.frozen?_alloc_past _ _ _ (DF h)
def Mv(W:World)(v:Value)(t:TypeId):(W.alloc (.cells #[v] t)).cell? ⟨W.heap.size,0,none⟩=some v/\(W.alloc (.cells #[v] t)).frozen? ⟨W.heap.size,0,none⟩=false:=by
 have h:(W.alloc (.cells #[v] t)).heap[W.heap.size]?=some (.cells #[v] t (0,0)):=World.alloc_heap_new W _;constructor;.simp only[World.cell?,h];rfl
 .simp only[World.frozen?,h];rfl
def XS{A B:World}{row:Option Nat}{k:Nat}{v:Value}(h:A.cell? ⟨k,0,none⟩=some v)(hg:A.grownBy B row)(hr:∀r,row=some r->k≠r):
  B.cell? ⟨k,0,none⟩=some v/\B.frozen? ⟨k,0,none⟩=A.frozen? ⟨k,0,none⟩:=by
 have hb:B.heap[k]?=A.heap[k]?:=hg.block k (DF h) (λe=>hr k e.symm rfl);exact⟨by rw[CH hb];exact h,by simp only[World.frozen?,hb]⟩
def aCM(ga gn off n cap:Nat)(cs:List Aa)(up x:Int)(w:World)(hga:ga<w.heap.size)(hgn:gn<w.heap.size)(P4:n<=cap)(hm:cap<=maxLen)
  (hc:w.cell? ⟨ga,0,none⟩=some (.slice (some ⟨gn,off,none⟩) n cap))
  (hx:∀(h:Int) (k:Nat) (v:Int),1<=h->h<=n->(k=1\/k=12)->GG cs off h k=some v->w.cell? ⟨gn,off+(h.toNat-1)*13+k,none⟩=some (.int .i64 v))
  (b:Bool) (hcl:Md cs off n up (n+1) x=some b) (dK:1<=up) (Ti:up<=n) (PR:1<=x) (Zk:x<=n):
  Calls Proofs.Tryz.prog 102 #[.pointer (some ⟨ga,0,none⟩),.int .i64 up,.int .i64 x] w λe w'=>e= .returned (.bool b)/\Below w.heap.size w w':=by
 refine(callsIn_wide (n:=5)).1 ?_;refine callsIn_of_wp_marks Proofs.Tryz.func102 rfl trivial ?_;simp only[Proofs.Tryz.ntmps102,BT,AE,AY,Nat.reduceAdd,Nat.reduceSub,KA,KB,Na,Lg,Bw,Cr];have c0:((w.alloc (.cells #[.int .i64 up] 3)).alloc (.cells #[.bool false] 4)).cell? ⟨ga,0,none⟩=some (.slice (some ⟨gn,off,none⟩) n cap):=by rw[World.cell?_alloc_past _ _ _ (by simp;omega),World.cell?_alloc_past _ _ _ hga];exact hc
 have n1:=Mv w (.int .i64 up) 3;have n2:=Mv (w.alloc (.cells #[.int .i64 up] 3)) (.bool false) 4;have n3:=Mv ((w.alloc (.cells #[.int .i64 up] 3)).alloc (.cells #[.bool false] 4)) (.pointer (some ⟨ga,0,none⟩)) 29;have n4:=Mv (((w.alloc (.cells #[.int .i64 up] 3)).alloc (.cells #[.bool false] 4)).alloc (.cells #[.pointer (some ⟨ga,0,none⟩)] 29)) (.int .i64 x) 3;have n5:=Mv ((((w.alloc (.cells #[.int .i64 up] 3)).alloc (.cells #[.bool false] 4)).alloc (.cells #[.pointer (some ⟨ga,0,none⟩)] 29)).alloc (.cells #[.int .i64 x] 3)) (.bool true) 4;simp only[World.size_alloc] at n2 n3 n4 n5;have d1:decide (1<=up/\up<=n)=true:=Ag ⟨dK,Ti⟩;have d2:decide (1<=x/\x<=n)=true:=Ag ⟨PR,Zk⟩;gi_wp2
 refine⟨trivial,(callsIn_wide.2 (aZ ga _ n cap up _ c0)).mono ?_⟩;rintro e w' ⟨rfl,rfl⟩;rw[d1];gi_wp2
 refine⟨trivial,(callsIn_wide.2 (aZ ga _ n cap x _ c0)).mono ?_⟩;rintro e w' ⟨rfl,rfl⟩;rw[d2];gi_wp2
 refine⟨trivial,(callsIn_wide.2 (aHA ga x _)).mono ?_⟩;rintro e w' ⟨rfl,rfl⟩;gi_wp2
 refine dX (gf:=233) (lb:=#[.pointer (some ⟨w.heap.size+1+1+1,0,none⟩),.pointer (some ⟨w.heap.size+1+1,0,none⟩),.pointer (some ⟨w.heap.size+1+1+1+1,0,none⟩)]) (w.heap.size+1+1+1) b up rfl (Go.Proofs.enters_of Proofs.Tryz.func233 (by kernel_rfl) rfl) (by simp)
  ?aCL rfl
  (λW=>Below w.heap.size w W/\W.cell? ⟨w.heap.size,0,none⟩=some (.int .i64 up)/\W.cell? ⟨w.heap.size+1,0,none⟩=some (.bool false)/\W.frozen? ⟨w.heap.size+1,0,none⟩=false)
  (λW=>Below w.heap.size w W/\W.cell? ⟨w.heap.size+1,0,none⟩=some (.bool true)) ?hI ?hIx ?h0
  (λy=>{tmps:=#[.pointer (some ⟨ga,0,none⟩),.int .i64 up,.int .i64 x,undef,.pointer (some ⟨w.heap.size,0,none⟩),undef,.pointer (some ⟨w.heap.size+1,0,none⟩),.int .i64 y,.pointer (some ⟨ga,0,none⟩),.int .i64 up,.bool true,.bool false,.bool false,.pointer (some ⟨ga,0,none⟩),.int .i64 x,.bool true,.bool false,.bool false,.pointer (some ⟨ga,0,none⟩),.int .i64 x,.func (.func 233) #[] #[.pointer (some ⟨w.heap.size+1+1+1,0,none⟩),.pointer (some ⟨w.heap.size+1+1,0,none⟩),.pointer (some ⟨w.heap.size+1+1+1+1,0,none⟩)],.int .i64 y,undef,undef,undef],defers:=[]})
  ?hassign ?XN ?vz ?v_
 case hI=>rintro A B row ⟨h1,h2,h3,h4⟩ hg hr;have Lm:=DF h3;have k1:=XS h2 hg (λr e=>by rcases hr r e with rfl|h<;>simp at* <;>omega);have k2:=XS h3 hg (λr e=>by rcases hr r e with rfl|h<;>simp at* <;>omega);exact⟨h1.grown hg (by omega) (λk e=>by rcases hr k e with rfl|h<;>simp at* <;>omega),k1.1,k2.1,k2.2.trans h4⟩
 case hIx=>rintro A B row ⟨h1,h3⟩ hg hr;have Lm:=DF h3;have k2:=XS h3 hg (λr e=>by rcases hr r e with rfl|h<;>simp at* <;>omega);exact⟨h1.grown hg (by omega) (λk e=>by rcases hr k e with rfl|h<;>simp at* <;>omega),k2.1⟩
 case h0=>
  refine⟨(((((Below.refl _ w).alloc (Ab _) _).alloc (by simp) _).alloc (by simp;omega) _).alloc (by simp;omega) _).alloc (by simp;omega) _,?_,?_,?_⟩;.exact CL _ (CL _ (CL _ (CL _ n1.1)))
  .exact CL _ (CL _ (CL _ n2.1))
  .rw[Lq _ (CL _ (CL _ n2.1)),Lq _ (CL _ n2.1),Lq _ n2.1];exact n2.2
 case aCL=>
  intro l J Jx W hW hJ hY hj;have kk:∀{k j:Nat} {v:Value},(((((w.alloc (.cells #[.int .i64 up] 3)).alloc (.cells #[.bool false] 4)).alloc (.cells #[.pointer (some ⟨ga,0,none⟩)] 29)).alloc (.cells #[.int .i64 x] 3)).alloc (.cells #[.bool true] 4)).cell? ⟨k,j,none⟩=some v->W.cell? ⟨k,j,none⟩=some v:=
   λ{k j v} h=>by rw[CH (hW.block k (DF h))];exact h
  have hs:lK (w.heap.size+1+1) (w.heap.size+1+1+1+1) ga gn off n cap cs W:=
   ⟨kk (CL _ (CL _ n3.1)),kk n5.1,kk (CL _ (CL _ (CL _ c0))),λh k v h1 h2 h3 h4=>kk (CL _ (CL _ (CL _ (CL _ (CL _ (hx h k v h1 h2 h3 h4))))))⟩
  refine aHB 4 l (w.heap.size+1+1+1) (w.heap.size+1+1) (w.heap.size+1+1+1+1) _ ga gn off n cap cs up J Jx hJ hY ?_ (by simp) P4 hm W x hs (kk (CL _ n4.1)) ?_ (n+1) b hcl hj;.rintro b (rfl|rfl|rfl|rfl)<;>simp<;>omega
  .have:W.frozen? ⟨w.heap.size+1+1+1,0,none⟩=_:=World.frozen?_of_block (hW.block (w.heap.size+1+1+1) (by simp));rw[this,Lq _ n4.1];exact n4.2
 case hassign=>
  intro l y W K hK;have aMb:=Oper.semAt_some l;gi_wp2
  exact hK
 case XN=>
  rintro l y W ⟨hb,Zx,LX,py⟩;have aMb:=Oper.semAt_some l;gi_wp2
  .rename_i he;obtain rfl:y=up:=eq_of_beq he;exact⟨KeepsOthers.setCell _ _ _,⟨hb.setCell (Ft _) _,World.cell?_setCell_same _ _ _ LX⟩,rfl⟩
  .rename_i he;exact⟨KeepsOthers.refl _,Below.refl _ _,⟨hb,Zx,LX,py⟩,λe=>by subst e;simp at he⟩
 case vz=>
  rintro D W rfl ⟨hb,Zx,LX,py⟩ hK hD;gi_wp2
  have hK':=(KeepsOthers.setCell W ⟨w.heap.size+1,0,none⟩ (.bool false)).same D _ hK rfl;have hc5:=cell_kept (World.cell?_setCell_same W ⟨w.heap.size+1,0,none⟩ (.bool false) LX) (grownBy_putObj' _ D (.deferred none)) (λr e=>by cases e;exact⟨_,hK',rfl⟩);refine⟨by simp,.inl ⟨_,_,rfl,run_takeDeferred hK',?_⟩⟩;refine⟨.bool false,?_,rfl,(hb.setCell (Ft _) _).grown (grownBy_putObj' _ D _) (by have:=DF LX;simp;omega) (λk e=>by cases e;simp at hD;omega)⟩;simp[results,Proofs.Tryz.f102,go_sem,hc5]
 case v_=>
  rintro D W rfl ⟨hb,LX⟩ hK hD;gi_wp2
  have hc5:=cell_kept LX (grownBy_putObj' _ D (.deferred none)) (λr e=>by cases e;exact⟨_,hK,rfl⟩);refine⟨by simp,.inl ⟨_,_,rfl,run_takeDeferred hK,?_⟩⟩;refine⟨.bool true,?_,rfl,hb.grown (grownBy_putObj' _ D _) (by have:=DF LX;omega) (λk e=>by cases e;simp at hD;omega)⟩;simp[results,Proofs.Tryz.f102,go_sem,hc5]
def XT(ga:Nat)(p:Option Addr)(n cap:Nat)(up x:Int)(w:World)(hc:w.cell? ⟨ga,0,none⟩=some (.slice p n cap))(ho:¬(1<=up/\up<=n/\1<=x/\x<=n)):
  Calls Proofs.Tryz.prog 102 #[.pointer (some ⟨ga,0,none⟩),.int .i64 up,.int .i64 x] w λe w'=>e= .returned (.bool false)/\Below w.heap.size w w':=by
 have c0:((w.alloc (.cells #[.int .i64 up] 3)).alloc (.cells #[.bool false] 4)).cell? ⟨ga,0,none⟩=some (.slice p n cap):=CL _ (CL _ hc);have n2:=Mv (w.alloc (.cells #[.int .i64 up] 3)) (.bool false) 4;simp only[World.size_alloc] at n2;have hb:Below w.heap.size w ((w.alloc (.cells #[.int .i64 up] 3)).alloc (.cells #[.bool false] 4)):=((Below.refl _ w).alloc (Ab _) _).alloc (by simp) _;refine(callsIn_wide (n:=5)).1 ?_;refine callsIn_of_wp Proofs.Tryz.func102 rfl trivial ?_ rfl;simp only[Proofs.Tryz.ntmps102,BT,AE,AY,Nat.reduceAdd,Nat.reduceSub,KA,KB,Na,Lg,Bw,Cr];by_cases h1:1<=up/\up<=n
 .have d1:decide (1<=up/\up<=n)=true:=Ag h1;have d2:decide (1<=x/\x<=n)=false:=Ak λh2=>ho ⟨h1.1,h1.2,h2.1,h2.2⟩;gi_wp2
  refine⟨trivial,(callsIn_wide.2 (aZ ga _ n cap up _ c0)).mono ?_⟩;rintro e w' ⟨rfl,rfl⟩;rw[d1];gi_wp2
  refine⟨trivial,(callsIn_wide.2 (aZ ga _ n cap x _ c0)).mono ?_⟩;rintro e w' ⟨rfl,rfl⟩;rw[d2];gi_wp2
  refine bodyPost_ret (v:= .bool false) ?_ rfl ⟨rfl,hb⟩;simp[results,Proofs.Tryz.f102,go_sem,n2.1]
 .have d1:decide (1<=up/\up<=n)=false:=Ak h1;gi_wp2
  refine⟨trivial,(callsIn_wide.2 (aZ ga _ n cap up _ c0)).mono ?_⟩;rintro e w' ⟨rfl,rfl⟩;rw[d1];gi_wp2
  refine⟨trivial,?_⟩;gi_wp2
  refine bodyPost_ret (v:= .bool false) ?_ rfl ⟨rfl,hb⟩;simp[results,Proofs.Tryz.f102,go_sem,n2.1]
section
variable{h:Ae}
def dZ{cs:List Aa}{off:Nat}{x:Int}{k:Nat}{v:Int}(e:GG cs off x k=some v):cs[off+(x.toNat-1)*13+k]?=some (.int .i64 v):=by
 unfold GG at e;split at e;.rename_i hh;cases e;exact hh
 .cases e
def Ķ(n:Nat)(args:List Aa)(r:Aa)(h':Ae)(AI:IT.step (B7 cx) (IT.run (B7 cx) n) (Oa args) h=some (.ret,[r],h')):
  (∃fn c,cx.P.funcs[EU 102]?=some fn/\(fn.name== "runtime.NumGoroutine")=false/\fn.body=some c)/\
  ∀(U:Gh) (w:World) (cargs:Array Value),HY U h w->(∀g cs,cx.Hs g=some cs->CU U cs g 0)->A3 U args cargs.toList->
   Calls cx.P (EU 102) cargs w λe w'=>match e with
    | .returned v=>∃U',HY U' h' w'/\ME U w U' w'/\BJ U' r v/\(cx.Kf 102=true->∃s c,Jm U' w.heap.size w' s c v r)
    |_=>False:=by
 refine⟨⟨_,_,Proofs.Tryz.func102,rfl,rfl⟩,λU w cargs hi hg ha=>?_⟩;simp only[Oa,IT.step,D5] at AI;cases e0:N9 h args with
 |none=>simp[e0] at AI
 |some R0=>
 obtain⟨h1,r1⟩:=R0;simp only[e0] at AI;cases AI;have Jd:∀(b:Bool) (cs:Array Value),h'=h->r= .bool b->Calls Proofs.Tryz.prog 102 cs w (λe w'=>e= .returned (.bool b)/\Below w.heap.size w w')->
   Calls cx.P (EU 102) cs w λe w'=>match e with
    | .returned v=>∃U',HY U' h' w'/\ME U w U' w'/\BJ U' r v/\(cx.Kf 102=true->∃s c,Jm U' w.heap.size w' s c v r)
    |_=>False:=by
  rintro b cs rfl rfl hc;refine hc.mono λe w' he=>?_;obtain⟨rfl,hb⟩:=he;obtain⟨jS,Us⟩:=hi.MJ hb;exact⟨U,jS,Us,rfl,λe=>by cases e⟩
 unfold N9 at e0;split at e0
 .rename_i id up x;obtain⟨v0,us,hcg,⟨g,hm,rfl⟩,v1,us1,rfl,rfl,v2,pG,rfl,rfl,hnil⟩:=ha;cases hnil;have hcargs:cargs=#[.pointer (some ⟨g,0,none⟩),.int .i64 up,.int .i64 x]:=by apply HJ;simpa using hcg
  subst hcargs;split at e0;.rename_i l hc;cases e0;obtain⟨_,y,hy,ry⟩:=hi.Th hc hm (j:=0) rfl;cases ry;exact Jd false _ rfl rfl (XT g none 0 0 up x w hy (by omega))
  .rename_i nid off len l hc;split at e0
   .rename_i cs hcs;split at e0
    .rename_i hl;obtain⟨_,y,hy,gn,cap,hmn,rfl,q1,⟨q2,q3⟩,q4⟩:=hi.Th hc hm (j:=0) rfl;have hga:g<w.heap.size:=DF hy;have hgn:gn<w.heap.size:=by obtain⟨⟨us,e,fr,p1,p2⟩,_⟩:=hi.sz gn _ q4;exact(AM.1 p1).1
     split at e0
     .rename_i hr;cases e1:Md cs off len up (len+1) x with
      |none=>simp[e1] at e0
      |some b=>simp only[e1,BF,Bx,Hq] at e0;obtain⟨rfl,rfl⟩:=e0;refine Jd b _ rfl rfl (aCM g gn off len cap cs up x w hga hgn q1 q3 hy (λt k v h1 h2 h3 h4=>?_) b e1 hr.1 hr.2.1 hr.2.2.1 hr.2.2.2);obtain⟨_,z,hz,rz⟩:=hi.Th hcs hmn (dZ h4);cases rz;exact hz
     .rename_i hr;cases e0;exact Jd false _ rfl rfl (XT g _ len cap up x w hy hr)
    .cases e0
   .cases e0
  .cases e0
 .cases e0
end
def Pu{T e:TypeId}{B b:Nat}{bs:List Value}{W W':World}(h:Lib.IsBuilder T e B b bs W)(hb:Below W.heap.size W W'):Lib.IsBuilder T e B b bs W':=by
 have key:∀p,Lib.BuilderAt T e B b p bs W->Lib.BuilderAt T e B b p bs W':=λp ⟨hB,v,hbk,Fv,hne⟩=>by refine⟨hB,v,(hb.block b (AM.1 hbk).1).trans hbk,?_,hne⟩;exact Fv.kept (row:=none) ⟨hb.os,hb.tape,hb.output,hb.size,λk hk _=>hb.block k hk⟩ (Classical.em _)
 exact h.imp (key _) (key _)
def KW(a b:List UInt8):Lib.byteCells (a++b)=Lib.byteCells a++Lib.byteCells b:=by simp[Lib.byteCells]
def byteCells_length(a:List UInt8):(Lib.byteCells a).length=a.length:=by simp[Lib.byteCells]
def qR(d:Nat):Lib.repeatL [32,32] d=List.replicate (2*d) 32:=by
 induction d with
 |zero=>rfl
 |succ d ih=>rw[Lib.repeatL,ih,show 2*(d+1)=2*d+1+1 by omega,Lf,Lf];rfl
def qS:∀a:Aa,a.Nh=true->a.still=true
 | .bool _,_=>rfl
 | .int _ _,_=>rfl
 | .str _,_=>rfl
 |a,h=>by cases a<;>first|rfl|simp[Aa.Nh] at h
def Vx:∀l:List Aa,l.all Aa.Nh=true->JJ l=true
 |[],_=>rfl
 |a::l,h=>by simp only[SD,A4] at h;simp only[JJ,A4];exact⟨qS a h.1,Vx l h.2⟩
section
variable{U:Gh}{h:Ae}{w:World}
def lL(hi:HY U h w){id g:Nat}{cs:List Aa}(hc:h[id]?=some (.cells cs))(hm:U.mu id=some g):∀(n o:Nat),o+n<=cs.length->Nt (Cv cs 1 o n)=true->
  (Cv cs 1 o n).length=n/\ES (Ge w) (Cv cs 1 o n) 1 g o
 |0,o,_,_=>⟨rfl,trivial⟩
 |n+1,o,hl,hs=>by
  have hlt:o<cs.length:=by omega
  have e1:(cs.drop o).take 1=[cs[o]]:=by rw[Ap hlt];rfl
  have jO:JJ ((cs.drop o).take 1)=true/\Nt (Cv cs 1 (o+1) n)=true:=by simpa only[Cv,Nt,A4] using hs
  obtain⟨p,q⟩:=lL hi hc hm n (o+1) (by omega) jO.2;rw[e1] at jO;have Jl:cs[o].still=true:=by simpa[JJ] using jO.1
  obtain⟨u,hu,h1,hr⟩:=Oc hi hc hm (An hlt);refine⟨by simp[Cv,p],?_⟩;simp only[Cv,e1];exact⟨rfl,⟨⟨u,Uv hu h1,BJ.mem hi _ _ Jl hr⟩,trivial⟩,q⟩
def eA(w:World)(b o:Nat)(Bv:List (List Aa)):Prop:=
 ∃v,w.cell? ⟨b,o,none⟩=some v/\((v= .slice none 0 0/\Bv=[])\/
  (∃gk ko cap,v= .slice (some ⟨gk,ko,none⟩) Bv.length cap/\Bv.length<=cap/\cap<=maxLen/\gk<w.heap.size/\ES (Ge w) Bv 1 gk ko))
def wb(hi:HY U h w){id g:Nat}(hm:U.mu id=some g){x:Int}{h1:Ae}{r:Aa}(e:jy h [.ptr (some (id,0)),.int .i64 x]=some (h1,r)):
  h1=h/\∃gn off n cap row c Bv,r= .tuple [.B4 row,.int .i64 c,.sl 1 Bv]/\g<w.heap.size/\gn<w.heap.size/\w.cell? ⟨g,0,none⟩=some (.slice (some ⟨gn,off,none⟩) n cap)/\n<=cap/\cap<=maxLen/\
   1<=x/\x<=n/\CU (Ge w) row gn (off+(x.toNat-1)*13)/\w.cell? ⟨gn,off+(x.toNat-1)*13+11,none⟩=some (.int .i64 c)/\eA w gn (off+(x.toNat-1)*13+2) Bv:=by
 unfold jy at e;split at e
 .rename_i FB x' KD;cases KD;split at e
  .rename_i nid off n l hc;split at e
   .rename_i cs hcs;split at e
    .rename_i hx;split at e
     .rename_i c0 c1 c2 c3 c4 c5 c6 c7 c8 c9 jU c c12 hrow;split at e
      .rename_i Jl;simp only[JJ,A4,M8] at Jl;obtain⟨s0,s1,s3,s4,s5,s6,s7,s8,s9,s10,s12⟩:=Jl;obtain⟨_,y,hy,gn,cap,hmn,rfl,q1,⟨q2,q3⟩,q4⟩:=hi.Th hc hm (j:=0) rfl;have hgn:gn<w.heap.size:=by obtain⟨⟨us,e,fr,p1,p2⟩,_⟩:=hi.sz gn _ q4;exact(AM.1 p1).1
       have get:∀(j:Nat) (a:Aa),j<13->[c0,c1,c2,c3,c4,c5,c6,c7,c8,c9,jU,.int .i64 c,c12][j]?=some a->cs[off+(x.toNat-1)*13+j]?=some a:=λj a hj ha=>by rw[<-hrow,CC hj,Cu] at ha;exact ha
       have key:∀(j:Nat) (a:Aa),j<13->[c0,c1,c2,c3,c4,c5,c6,c7,c8,c9,jU,.int .i64 c,c12][j]?=some a->a.still=true->∃u,(Ge w).Iw gn (off+(x.toNat-1)*13+j)=some u/\BJ (Ge w) a u:=λj a hj ha hs=>by obtain⟨u,hu,ho,hr⟩:=Oc hi hcs hmn (get j a hj ha);exact⟨u,Uv hu ho,BJ.mem hi _ _ hs hr⟩
       have wF:w.cell? ⟨gn,off+(x.toNat-1)*13+11,none⟩=some (.int .i64 c):=by obtain⟨u,hu,_,hr⟩:=Oc hi hcs hmn (get 11 _ (by omega) rfl);cases hr;exact hu
       obtain⟨u2,Ti,kL,MH⟩:=Oc hi hcs hmn (get 2 c2 (by omega) rfl);have mk:∀(k2:Aa),(∃u,(Ge w).Iw gn (off+(x.toNat-1)*13+2)=some u/\BJ (Ge w) k2 u)->CU (Ge w) [c0,c1,k2,c3,c4,c5,c6,c7,c8,c9,jU,.int .i64 c,c12] gn (off+(x.toNat-1)*13):=λk2 h2=>⟨key 0 c0 (by omega) rfl s0,key 1 c1 (by omega) rfl s1,h2,key 3 c3 (by omega) rfl s3,key 4 c4 (by omega) rfl s4,key 5 c5 (by omega) rfl s5,key 6 c6 (by omega) rfl s6,key 7 c7 (by omega) rfl s7,key 8 c8 (by omega) rfl s8,key 9 c9 (by omega) rfl s9,key 10 jU (by omega) rfl s10,key 11 _ (by omega) rfl rfl,key 12 c12 (by omega) rfl s12,trivial⟩
       have hg:=DF hy;split at e;.cases e;cases MH;exact⟨rfl,gn,off,n,cap,_,c,[],rfl,hg,hgn,hy,q1,q3,hx.1,hx.2.1,mk _ ⟨_,Uv Ti kL,rfl⟩,wF,_,Ti,.inl ⟨rfl,rfl⟩⟩
       .rename_i Rt ko m;split at e
        .rename_i ks ģ;split at e
         .rename_i hk;cases e;obtain⟨gk,capk,hmk,rfl,r1,⟨r2,r3⟩,r4⟩:=MH;obtain⟨t1,t2⟩:=lL hi ģ hmk m ko (by omega) hk.2;have hgk:gk<w.heap.size:=by obtain⟨⟨us,e,fr,p1,p2⟩,_⟩:=hi.sz gk _ r4;exact(AM.1 p1).1
          refine⟨rfl,gn,off,n,cap,_,c,Cv ks 1 ko m,rfl,hg,hgn,hy,q1,q3,hx.1,hx.2.1,mk _ ⟨_,Uv Ti kL,⟨gk,ko,none⟩,capk,by rw[t1],by rw[t1];exact r1,.inl rfl,t2⟩,wF,_,Ti,.inr ⟨gk,ko,capk,by rw[t1],by rw[t1];exact r1,r3,hgk,t2⟩⟩
         .cases e
        .cases e
       .cases e
      .cases e
     .cases e
    .cases e
   .cases e
  .cases e
 .cases e
def ķ{n:Nat}(hs:E2 cx (IT.run (B7 cx) n))(hi:HY U h w)(hg:∀g cs,cx.Hs g=some cs->CU U cs g 0){row:List Aa}{s:Ad}{h1:Ae}(e:IT.run (B7 cx) n (B7 cx 91 [.B4 row]) []=some (.ret,[.str s],h1))
  {W:World} (hb:Below w.heap.size w W) {gn o:Nat} (hr:CU (Ge w) row gn o):
  Calls Proofs.Tryz.prog 91 #[.pointer (some ⟨gn,o,none⟩)] W λe W'=>e= .returned (.string ⟨⟨s⟩⟩)/\Below W.heap.size W W':=by
 refine((hs.2 91 _ _ _ _ e).2 (Ge W) W #[.pointer (some ⟨gn,o,none⟩)] (vr W) (λg cs hgc=>CU.mono (lH hb) cs g 0 (CU.mem hi cs g 0 (Vx cs (hs.1.1 g cs hgc)) (hg g cs hgc)))
  ⟨_,_,rfl,⟨gn,o,rfl,CU.mono (lH hb) row gn o hr⟩,rfl⟩).mono λe W' he=>?_
 cases e with
 |returned v=>obtain⟨U',_,ha,hv,_⟩:=he;cases hv;exact⟨rfl,ha.os,ha.tape,ha.output,ha.size,λk hk=>(ha.OF k hk (λid=>by simp[Ge])).1⟩
 |_=>exact he.elim
end
def ĸ{w:World}{b o:Nat}{Bv:List (List Aa)}(h:eA w b o Bv):∃p cap,w.cell? ⟨b,o,none⟩=some (.slice p Bv.length cap)/\Bv.length<=cap/\cap<=maxLen/\
  ∀(i:Nat) (y:Int),Bv[i]?=some [.int .i64 y]->∃gk ko,p=some ⟨gk,ko,none⟩/\gk<w.heap.size/\w.cell? ⟨gk,ko+i,none⟩=some (.int .i64 y):=by
 obtain⟨v,hv,⟨rfl,rfl⟩|⟨gk,ko,cap,rfl,h1,h2,h3,h4⟩⟩:=h;.exact⟨none,0,hv,Ab _,by decide,λi y hi=>by simp at hi⟩
 .refine⟨_,cap,hv,h1,h2,λi y hi=>⟨gk,ko,rfl,h3,?_⟩⟩;obtain⟨_,⟨u,hu,hr⟩,_⟩:=ES.get h4 hi;cases hr;have:=hu;simp only[Ge,Rv] at this;simpa using this.1
def lM(l:List UInt8):Lib.strCells ⟨l.toArray⟩=Lib.byteCells l:=by simp[Lib.strCells,Lib.byteCells]
def eB(l:List UInt8):Lib.strCells ⟨⟨l⟩⟩=Lib.byteCells l:=by simp[Lib.strCells,Lib.byteCells]
def qT(i n:Nat)(h:i<n)(hn:n<=9223372036854775807):wrap64 ((i:Int)+1)=((i+1:Nat):Int):=by rw[Go.IntWalk.wrap64_in _ ⟨by omega,by omega⟩];omega
def bA(d:Nat)(h:d<=1000):wrap64 ((d:Int)+1)=((d+1:Nat):Int):=by rw[Go.IntWalk.wrap64_in _ ⟨by omega,by omega⟩];omega
abbrev qn(g:Nat)(w0:World)(x:Int)(d:Nat)(DP Sb:Ad):Prop:=
 ∀(B b:Nat) (W:World),w0.heap.size<=B->B<=W.heap.size->Below w0.heap.size w0 W->Lib.IsBuilder 95 5 B b (Lib.byteCells DP) W->
  Calls Proofs.Tryz.prog 53 #[.pointer (some ⟨g,0,none⟩),.pointer (some ⟨b,0,none⟩),.int .i64 x,.int .i64 d] W λe W'=>(∃v,e= .returned v)/\Lib.IsBuilder 95 5 B b (Lib.byteCells Sb) W'/\Below B W W'
def j_{p:Prop}(h:p):Hid p:=h
def MK{w0 W':World}{k j:Nat}{v:Value}(hb:Below w0.heap.size w0 W')(h:w0.cell? ⟨k,j,none⟩=some v):W'.cell? ⟨k,j,none⟩=some v:=by rw[CH (hb.block k (DF h))];exact h
def qU:Code->Code
 | .seq _ c=>qU c
 | .block _ c=>c
 |c=>c
noncomputable def wc:Code:=match Proofs.Tryz.f53.body with
 |some c=>qU c
 |none=> .skip
def we{w0 W W6:World}{g B b d capk:Nat}{p:Option Addr}{Bv:List (List Aa)}(hB:w0.heap.size<=B)(hBW:B<=W.heap.size)(hb:Below w0.heap.size w0 W)(hd:d<=1000)
  (Ua:Bv.length<=capk) (oY:capk<=maxLen) (qQ:∀(i:Nat) (y:Int),Bv[i]?=some [.int .i64 y]->∃gk ko,p=some ⟨gk,ko,none⟩/\gk<w0.heap.size/\w0.cell? ⟨gk,ko+i,none⟩=some (.int .i64 y))
  (f:Nat->Ad) (hf:∀i,i<Bv.length->∃y,Bv[i]?=some [.int .i64 y]/\qn g w0 y (d+1) (f i) (f (i+1))) (bb6:Below B W W6) (l6:Lib.IsBuilder 95 5 B b (Lib.byteCells (f 0)) W6)
  (z2 z4 z5 z6 z7 z8 z9 z10 z11 z12 z13 z14 z15 z16 z17 z18 z19 z20 z21 z22 z23 z24 z25 z26 z27 z28 z29 z30 z31 z32 z33 z34 z35 z36 z37 z38 z39 z40 z41 z42 z43 z44 z45 z49 z50 z51 z52 z53 z54 z55 z56 z57 z58:Value):
  wc.wpIn Fence.wide 5 Proofs.Tryz.prog (Exit.inBlock 0<|bodyPost Proofs.Tryz.prog Proofs.Tryz.f53 λe W'=>(∃v,e= .returned v)/\Lib.IsBuilder 95 5 B b (Lib.byteCells (f Bv.length)) W'/\Below B W W')
   {tmps:=#[.pointer (some ⟨g,0,none⟩),.pointer (some ⟨b,0,none⟩),z2,.int .i64 d,z4,z5,z6,z7,z8,z9,z10,z11,z12,z13,z14,z15,z16,z17,z18,z19,z20,z21,z22,z23,z24,z25,z26,z27,z28,z29,z30,z31,z32,z33,z34,z35,z36,z37,z38,z39,z40,z41,z42,z43,z44,z45,.slice p Bv.length capk,.int .i64 Bv.length,.int .i64 0,z49,z50,z51,z52,z53,z54,z55,z56,z57,z58],defers:=[]} W6:=by
 simp only[wc,qU,Proofs.Tryz.f53];gi_loopg [48] Bv.length (λk v wr=>∃i,i<=Bv.length/\k=Bv.length-i/\v= .int .i64 (i:Nat)/\Below B W wr/\Lib.IsBuilder 95 5 B b (Lib.byteCells (f i)) wr)
 case atStart=>exact⟨0,AU _,rfl,rfl,bb6,l6⟩
 case round=>
  obtain⟨i,hi,rfl,rfl,bbi,li⟩:=hrel;by_cases hlt:i<Bv.length
  .obtain⟨y,hy,aBi⟩:=hf i hlt;obtain⟨gk,ko,rfl,hgk,JV⟩:=qQ i y hy;have hbi:Below w0.heap.size w0 wr:=hb.trans (bbi.mono hB);have ci:=MK hbi JV;have aTx:(i:Int)<(Bv.length:Int):=by exact_mod_cast hlt
   have hwi:=qT i _ hlt (Bn Ua oY);have hwd:=bA d hd;have Wu:=aBi B b _ hB (Bn hBW bbi.size) hbi li;clear aBi hf qQ Ua oY hbi li l6 bb6 JV hy hgk hB hBW hb;rw[show((d+1:Nat):Int)=(d:Int)+1 from rfl] at Wu;gi_wp2
   refine⟨trivial,(callsIn_wide.2 Wu).mono ?_⟩;rintro e W7 ⟨⟨v,rfl⟩,l7,b7⟩;gi_wp2
   gi_roundg (Bv.length-(i+1))
   case measure=>exact Nat.sub_lt_sub_left hlt (T2 i)
   case rel=>refine⟨i+1,hlt,rfl,?_,bbi.trans b7,l7⟩;first|rfl|exact BQ (Value.int .i64) hwi
  .obtain rfl:i=Bv.length:=Nat.le_antisymm hi (Nat.le_of_not_lt hlt);gi_wp2
   go_end0
   exact⟨⟨_,rfl⟩,li,bbi⟩
def aCN{w0:World}{g gn off n cap:Nat}{c x:Int}{Bv:List (List Aa)}(hgs:g<w0.heap.size)(hgn:gn<w0.heap.size)(hc:w0.cell? ⟨g,0,none⟩=some (.slice (some ⟨gn,off,none⟩) n cap))(P4:n<=cap)(hm:cap<=maxLen)
  (PR:1<=x) (Zk:x<=n) (V9:w0.cell? ⟨gn,off+(x.toNat-1)*13+11,none⟩=some (.int .i64 c)) (hk:eA w0 gn (off+(x.toNat-1)*13+2) Bv)
  {d:Nat} (hd:d<=1000) {DP acc2 s:Ad}
  (wG:∀W,Below w0.heap.size w0 W->Calls Proofs.Tryz.prog 91 #[.pointer (some ⟨gn,off+(x.toNat-1)*13,none⟩)] W λe W'=>e= .returned (.string ⟨⟨s⟩⟩)/\Below W.heap.size W W')
  (hlen:(DP++List.replicate (2*d) 32++s++[10]).length<=AN)
  (wH:(c=0/\acc2=DP++List.replicate (2*d) 32++s++[10])\/(c≠0/\qn g w0 c (d+1) (DP++List.replicate (2*d) 32++s++[10]) acc2))
  (f:Nat->Ad) (ý:f 0=acc2) (hf:∀i,i<Bv.length->∃y,Bv[i]?=some [.int .i64 y]/\qn g w0 y (d+1) (f i) (f (i+1))):
  qn g w0 x d DP (f Bv.length):=by
 intro B b W hB hBW hb hbl;obtain⟨p,capk,ü,Ua,oY,qQ⟩:=ĸ hk;have hmb:AN=140737488355328:=rfl;simp only[Ai,FE,AE,AY] at hlen;have m1:2*d<=140737488355328:=by rw[hmb] at hlen;omega
 have m2:(Lib.byteCells DP).length+(⟨(List.replicate (2*d) (32:UInt8)).toArray⟩:ByteArray).size<=140737488355328:=by rw[hmb] at hlen;rw[byteCells_length];simp only[ByteArray.size,BT,FE];omega
 have m3:(Lib.byteCells (DP++List.replicate (2*d) 32)).length+(⟨⟨s⟩⟩:ByteArray).size<=140737488355328:=by rw[hmb] at hlen;rw[byteCells_length];simp only[ByteArray.size,Ai,FE];show _+s.length<=_;omega
 have m4:(Lib.byteCells (DP++List.replicate (2*d) 32++s)).length+1<=140737488355328:=by rw[hmb] at hlen;rw[byteCells_length];simp only[Ai,FE];omega
 have m5:d<=9223372036854775807:=Bn hd (by decide);clear hlen hmb;have Hline:=j_ wG;have Hcont:=j_ wH;have Hf:=j_ hf;have Hk4:=j_ qQ;have Hk2:=j_ Ua;have Hk3:=j_ oY;clear wG wH hf qQ hk Ua oY;refine(callsIn_wide (n:=5)).1 ?_;refine callsIn_of_wp Proofs.Tryz.func53 rfl trivial ?_ rfl;simp only[Proofs.Tryz.ntmps53,BT,AE,AY,Nat.reduceAdd,Nat.reduceSub,KA,KB,Na,Lg,Bw,Cr];gi_wp2
 refine⟨trivial,(callsIn_wide.2 (aHz g gn off n cap x _ (MK hb hc) PR Zk P4 hm)).mono ?_⟩;rintro e w' ⟨rfl,rfl⟩;gi_wp2
 refine⟨trivial,(callsIn_wide.2 (Proofs.Tryz.strings_Repeat ⟨#[32,32]⟩ d _ m5 m1)).mono ?_⟩;rintro e W1 ⟨rfl,b1⟩;have Qa:Below w0.heap.size w0 W1:=hb.trans (b1.mono hb.size);have bb1:Below B W W1:=b1.mono hBW;have l1:=Pu hbl b1;have hr:(Lib.repeatL (⟨#[32,32]⟩:ByteArray).data.toList d)=List.replicate (2*d) 32:=qR d;rw[hr];gi_wp2
 refine⟨trivial,(callsIn_wide.2 (Proofs.Tryz.Builder_WriteString B b (Lib.byteCells DP) _ _ l1 m2 (Bn hBW bb1.size))).mono ?_⟩;rintro e W2 ⟨rfl,l2,b2⟩;rw[lM,<-KW] at l2;have bb2:=bb1.trans b2;have RJ:Below w0.heap.size w0 W2:=Qa.trans (b2.mono hB);gi_wp2
 refine⟨trivial,(callsIn_wide.2 (Hline.out _ RJ)).mono ?_⟩;rintro e W3 ⟨rfl,b3⟩;have hb3:Below w0.heap.size w0 W3:=RJ.trans (b3.mono RJ.size);have bb3:Below B W W3:=bb2.trans (b3.mono (Bn hBW bb2.size));have l3:=Pu (.inr l2) b3;gi_wp2
 refine⟨trivial,(callsIn_wide.2 (Proofs.Tryz.Builder_WriteString B b _ _ _ l3 m3 (Bn hBW bb3.size))).mono ?_⟩;rintro e W4 ⟨rfl,l4,b4⟩;rw[eB,<-KW] at l4;have bb4:=bb3.trans b4;have hb4:Below w0.heap.size w0 W4:=hb3.trans (b4.mono hB);gi_wp2
 refine⟨trivial,(callsIn_wide.2 (Proofs.Tryz.Builder_WriteByte B b _ 10 _ (.inr l4) m4 (Bn hBW bb4.size))).mono ?_⟩;rintro e W5 ⟨rfl,l5,b5⟩;have e10:Lib.byteCells (DP++List.replicate (2*d) 32++s)++[Value.int .u8 10]=Lib.byteCells (DP++List.replicate (2*d) 32++s++[10]):=by rw[KW (DP++List.replicate (2*d) 32++s) [10]];rfl
 replace l5:=e10▸l5;have bb5:=bb4.trans b5;have hb5:Below w0.heap.size w0 W5:=hb4.trans (b5.mono hB);have c5:=MK hb5 V9;clear P4 hm PR Zk hc m1 m2 m3 m4 m5 l1 l3 l4 l2;rcases Hcont.out with⟨rfl,rfl⟩|⟨hc0,wg⟩
 .have bb6:=bb5;have l6:Lib.IsBuilder 95 5 B b (Lib.byteCells (f 0)) W5:=by rw[ý];exact .inr l5
  have ck:=MK hb5 ü;gi_wp2
  exact we hB hBW hb hd Hk2.out Hk3.out Hk4.out f Hf.out bb6 l6 _ _ _ _ _ _ _ _ _ _ _ _ _ _ _ _ _ _ _ _ _ _ _ _ _ _ _ _ _ _ _ _ _ _ _ _ _ _ _ _ _ _ _ _ _ _ _ _ _ _ _ _ _
 .have hne:(c != 0)=true:=by simp[hc0]
  have hwd:=bA d hd;have aHF:=wg B b _ hB (Bn hBW bb5.size) hb5 (.inr l5);rw[show((d+1:Nat):Int)=(d:Int)+1 from rfl] at aHF;gi_wp2
  refine⟨trivial,(callsIn_wide.2 aHF).mono ?_⟩;rintro e W6 ⟨⟨v,rfl⟩,l6',b6⟩;have bb6:=bb5.trans b6;have hb6:Below w0.heap.size w0 W6:=hb5.trans (b6.mono hB);have l6:Lib.IsBuilder 95 5 B b (Lib.byteCells (f 0)) W6:=by rw[ý];exact l6'
  have ck:=MK hb6 ü;gi_wp2
  exact we hB hBW hb hd Hk2.out Hk3.out Hk4.out f Hf.out bb6 l6 _ _ _ _ _ _ _ _ _ _ _ _ _ _ _ _ _ _ _ _ _ _ _ _ _ _ _ _ _ _ _ _ _ _ _ _ _ _ _ _ _ _ _ _ _ _ _ _ _ _ _ _ _
section
variable{U:Gh}{h:Ae}{w0:World}
abbrev aCP(fuel d:Nat)(a:Aa):List Aa->(Ad->IT)->Ad->IT:=λRt K DP=>match Rt with
 |[.int .i64 y]=>H9 91 a fuel y (d+1) DP K
 |_=> .fail
def lN{run:IT->Ae->Option J7}{g fuel d:Nat}{a:Aa}(ih:∀(x:Int) (DP:Ad) (k:Ad->IT) (res:J7),IT.step (B7 cx) run (H9 91 a fuel x (d+1) DP k) h=some res->∃Sb,IT.step (B7 cx) run (k Sb) h=some res/\qn g w0 x (d+1) DP Sb):
  ∀(Bv:List (List Aa)) (DP:Ad) (k:Ad->IT) (res:J7),IT.step (B7 cx) run (Bv.foldr (aCP fuel d a) k DP) h=some res->
   ∃f:Nat->Ad,f 0=DP/\IT.step (B7 cx) run (k (f Bv.length)) h=some res/\∀i,i<Bv.length->∃y,Bv[i]?=some [.int .i64 y]/\qn g w0 y (d+1) (f i) (f (i+1))
 |[],DP,k,res,e=>⟨λ_=>DP,rfl,e,λi hi=>by simp at hi⟩
 |Rt::Bv,DP,k,res,e=>by
  simp only[List.foldr_cons] at e;unfold aCP at e;split at e
  .rename_i y;obtain⟨acc1,e1,c1⟩:=ih _ _ _ _ e;obtain⟨f,f0,f1,f2⟩:=lN ih Bv acc1 k res e1;refine⟨λ|0=>DP|i+1=>f i,rfl,f1,λi hi=>?_⟩;cases i with
   |zero=>
    have hc:qn g w0 y (d+1) DP (f 0):=by rw[f0];exact c1
    exact⟨y,rfl,hc⟩
   |succ i=>obtain⟨y',p,q⟩:=f2 i (by simpa using hi);exact⟨y',by simpa using p,q⟩
  .cases e
def wh{run:IT->Ae->Option J7}{a:Aa}{x:Int}{d:Nat}{DP:Ad}{k:Ad->IT}{res:J7}(fuel:Nat)(e:IT.step (B7 cx) run (H9 91 a fuel x d DP k) h=some res):∃id,a= .ptr (some (id,0)):=by
 cases fuel with
 |zero=>simp[H9,IT.step] at e
 |succ fuel=>
  simp only[H9,IT.step,D5] at e;cases e0:jy h [a,.int .i64 x] with
  |none=>simp[e0] at e
  |some R0=>
   unfold jy at e0;split at e0;.rename_i id x' KD;cases KD;exact⟨id,rfl⟩
   .cases e0
def lO{n:Nat}(hs:E2 cx (IT.run (B7 cx) n))(hi:HY U h w0)(hg:∀g cs,cx.Hs g=some cs->CU U cs g 0){id g:Nat}(hm:U.mu id=some g):
  ∀(fuel:Nat) (x:Int) (d:Nat) (DP:Ad) (k:Ad->IT) (res:J7),d+fuel<=1000->IT.step (B7 cx) (IT.run (B7 cx) n) (H9 91 (.ptr (some (id,0))) fuel x d DP k) h=some res->
   ∃Sb,IT.step (B7 cx) (IT.run (B7 cx) n) (k Sb) h=some res/\qn g w0 x d DP Sb/\∃p cap ln,w0.cell? ⟨g,0,none⟩=some (.slice p ln cap)/\1<=x/\x<=ln
 |0,x,d,DP,k,res,_,e=>by simp[H9,IT.step] at e
 |fuel+1,x,d,DP,k,res,hd,e=>by
  simp only[H9,IT.step,D5] at e;cases e0:jy h [.ptr (some (id,0)),.int .i64 x] with
  |none=>simp[e0] at e
  |some R0=>
  obtain⟨h1,r⟩:=R0;simp only[e0] at e;obtain⟨hh,gn,off,nn,cap,row,c,Bv,rfl,hgs,hgn,hc,P4,hmx,PR,Zk,hrow,V9,hk⟩:=wb hi hm e0;simp only[IT.step] at e;rw[hh] at e;clear hh;cases e1:IT.run (B7 cx) n (B7 cx 91 [.B4 row]) [] with
  |none=>simp[e1] at e
  |some R1=>
  simp only[e1] at e;split at e
  .rename_i r1 h1' KD;cases KD;split at e
   .split at e
    .rename_i s IZ;split at e
     .rename_i hlen;have ih:∀(x:Int) (DP:Ad) (k:Ad->IT) (res:J7),IT.step (B7 cx) (IT.run (B7 cx) n) (H9 91 (.ptr (some (id,0))) fuel x (d+1) DP k) h=some res->∃Sb,IT.step (B7 cx) (IT.run (B7 cx) n) (k Sb) h=some res/\qn g w0 x (d+1) DP Sb:=λx DP k res e=>by obtain⟨Sb,p,q,_⟩:=lO hs hi hg hm fuel x (d+1) DP k res (by omega) e;exact⟨Sb,p,q⟩
      have wG:∀W,Below w0.heap.size w0 W->Calls Proofs.Tryz.prog 91 #[.pointer (some ⟨gn,off+(x.toNat-1)*13,none⟩)] W λe W'=>e= .returned (.string ⟨⟨s⟩⟩)/\Below W.heap.size W W':=
       λW hb=>ķ hs hi hg e1 hb hrow
      have Jd:∀acc2,((c=0/\acc2=DP++List.replicate (2*d) 32++s++[10])\/(c≠0/\qn g w0 c (d+1) (DP++List.replicate (2*d) 32++s++[10]) acc2))->
        IT.step (B7 cx) (IT.run (B7 cx) n) (Bv.foldr (aCP fuel d (.ptr (some (id,0)))) k acc2) h=some res->∃Sb,IT.step (B7 cx) (IT.run (B7 cx) n) (k Sb) h=some res/\qn g w0 x d DP Sb/\∃p cap ln,w0.cell? ⟨g,0,none⟩=some (.slice p ln cap)/\1<=x/\x<=ln:=by
       intro acc2 wH e2;obtain⟨f,f0,f1,f2⟩:=lN ih Bv acc2 k res e2;exact⟨f Bv.length,f1,aCN hgs hgn hc P4 hmx PR Zk V9 hk (by omega) wG hlen wH f f0 f2,_,_,_,hc,PR,Zk⟩
      split at e;.rename_i hc0;exact Jd _ (.inl ⟨hc0,rfl⟩) e
      .rename_i hc0;obtain⟨acc2,p,q⟩:=ih _ _ _ _ e;exact Jd acc2 (.inr ⟨hc0,q⟩) p
     .cases e
    .cases e
   .cases e
  .cases e
end
def aCR{w0:World}{g ln cap:Nat}{p:Option Addr}{x:Int}{s:Ad}(hgs:g<w0.heap.size)(hc:w0.cell? ⟨g,0,none⟩=some (.slice p ln cap))(PR:1<=x)(Zk:x<=ln)(wg:qn g w0 x 0 [] s):
  Calls Proofs.Tryz.prog 37 #[.pointer (some ⟨g,0,none⟩),.int .i64 x] w0 λe w'=>e= .returned (.string ⟨⟨s⟩⟩)/\Below w0.heap.size w0 w':=by
 have d1:decide (1<=x/\x<=ln)=true:=Ag ⟨PR,Zk⟩;have aMi:(w0.alloc (.cells #[.pointer none,.slice none 0 0] 95)).heap[w0.heap.size]?=some (.cells #[.pointer none,.slice none 0 0] 95 (0,0)):=World.alloc_heap_new w0 _;have Qa:Below w0.heap.size w0 (w0.alloc (.cells #[.pointer none,.slice none 0 0] 95)):=(Below.refl _ w0).alloc (Ab _) _;have l1:Lib.IsBuilder 95 5 w0.heap.size w0.heap.size (Lib.byteCells []) (w0.alloc (.cells #[.pointer none,.slice none 0 0] 95)):=
  .inl ⟨Ab _,.slice none 0 0,aMi,World.ownsRow_nil _ _ _ _,by simp[Value.ownBlock]⟩
 have Wu:=wg w0.heap.size w0.heap.size _ (Ab _) (by simp) Qa l1;rw[show((0:Nat):Int)=0 from rfl] at Wu;refine(callsIn_wide (n:=5)).1 ?_;refine callsIn_of_wp Proofs.Tryz.func37 rfl trivial ?_ rfl;simp only[Proofs.Tryz.ntmps37,BT,AE,AY,Nat.reduceAdd,Nat.reduceSub,KA,KB,Na,Lg,Bw,Cr];gi_wp2
 refine⟨trivial,(callsIn_wide.2 (aZ g _ ln cap x _ hc)).mono ?_⟩;rintro e w' ⟨rfl,rfl⟩;rw[d1];gi_wp2
 refine⟨trivial,(callsIn_wide.2 Wu).mono ?_⟩;rintro e W2 ⟨⟨v,rfl⟩,l2,b2⟩;gi_wp2
 refine⟨trivial,(callsIn_wide.2 (Proofs.Tryz.Builder_String_any w0.heap.size w0.heap.size s _ l2 (by have:=b2.size;have:=Qa.size;omega))).mono ?_⟩;rintro e W3 ⟨rfl,b3⟩;gi_wp2
 refine bodyPost_ret (results_tmp rfl _ _ _) rfl ?_;exact⟨rfl,(Qa.trans b2).trans b3⟩
def aCS{h:Ae}(n:Nat)(hs:E2 cx (IT.run (B7 cx) n))(args:List Aa)(r:Aa)(h':Ae)(AI:IT.step (B7 cx) (IT.run (B7 cx) n) (wB 91 args) h=some (.ret,[r],h')):
  (∃fn c,cx.P.funcs[EU 37]?=some fn/\(fn.name== "runtime.NumGoroutine")=false/\fn.body=some c)/\
  ∀(U:Gh) (w:World) (cargs:Array Value),HY U h w->(∀g cs,cx.Hs g=some cs->CU U cs g 0)->A3 U args cargs.toList->
   Calls cx.P (EU 37) cargs w λe w'=>match e with
    | .returned v=>∃U',HY U' h' w'/\ME U w U' w'/\BJ U' r v/\(cx.Kf 37=true->∃s c,Jm U' w.heap.size w' s c v r)
    |_=>False:=by
 refine⟨⟨_,_,Proofs.Tryz.func37,rfl,rfl⟩,λU w cargs hi hg ha=>?_⟩;have aMj:∃id x,args=[.ptr (some (id,0)),.int .i64 x]:=by
  unfold wB at AI;split at AI;.rename_i a x;obtain⟨id,rfl⟩:=wh _ AI;exact⟨id,x,rfl⟩
  .cases AI
 obtain⟨id,x,rfl⟩:=aMj;obtain⟨v0,us,hcg,⟨g,hm,rfl⟩,v1,us1,rfl,rfl,hnil⟩:=ha;cases hnil;have hcargs:cargs=#[.pointer (some ⟨g,0,none⟩),.int .i64 x]:=by apply HJ;simpa using hcg
 subst hcargs;simp only[wB] at AI;obtain⟨DP,e1,wg,p,cap,ln,hc,PR,Zk⟩:=lO hs hi hg hm 100 x 0 [] _ _ (by omega) AI;cases e1;refine(aCR (DF hc) hc PR Zk wg).mono λe w' he=>?_;obtain⟨rfl,hb⟩:=he;obtain⟨jS,Us⟩:=hi.MJ hb;exact⟨U,jS,Us,rfl,λe=>by cases e⟩
end Go.Am
end
section
namespace Go.Am
open Go
def Wx:dR cx:=by
 refine⟨λf hf=>?_,λf p hp n hs args h r h' AI=>?_⟩
 .simp only[cx,aHo] at hf;split at hf;.exact jz
  .cases hf
 .simp only[cx,aBc] at hp;split at hp;.cases hp;exact aCS n hs args r h' AI
  .cases hp;exact Ķ n args r h' AI
  .cases hp;exact ĵ n hs args r h' AI
  .cases hp
end Go.Am
end
