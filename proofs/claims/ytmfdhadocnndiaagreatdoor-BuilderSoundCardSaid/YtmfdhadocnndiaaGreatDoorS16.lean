/- Lemmas -/
import Derived.Test.YtmfdhadocnndiaaGreatDoorS15
import Derived.RangeFuncBox
import Derived.OwnWalkIn
import Derived.TacticsInMore
import Derived.LoopNIn
import Derived.Sort.LoopGhostIn
set_option linter.all false
set_option maxHeartbeats 0
set_option maxRecDepth 100000
section
namespace Go.Am
open Go Go.RowKit Go.Shelf
def VP(ga:Nat)(p:Option Addr)(n cap:Nat)(x:Int)(w:World)(hc:w.cell? ⟨ga,0,none⟩=some (.slice p n cap)):
  Calls Proofs.Tryz.prog 72 #[.pointer (some ⟨ga,0,none⟩),.int .i64 x] w λe w'=>e= .returned (.bool (decide (1<=x/\x<=n)))/\w=w':=by
 go_enter Proofs.Tryz.func72,Proofs.Tryz.ntmps72
 go_wp2
 all_goals refine bodyPost_ret (results_tmp rfl _ _ _) rfl ?_
 all_goals simp_all
 all_goals omega
def í(ga gn off n cap:Nat)(x:Int)(w:World)(hc:w.cell? ⟨ga,0,none⟩=some (.slice (some ⟨gn,off,none⟩) n cap))(h1:1<=x)(h2:x<=n)(MQ:n<=cap)(hm:cap<=maxLen):
  Calls Proofs.Tryz.prog 76 #[.pointer (some ⟨ga,0,none⟩),.int .i64 x] w λe w'=>e= .returned (.pointer (some ⟨gn,off+(x.toNat-1)*13,none⟩))/\w=w':=by
 have hb:maxLen<=9223372036854775807:=Br;have hw:wrap64 (x-1)=x-1:=Go.IntWalk.wrap64_in _ ⟨Ab,Ab⟩;go_enter Proofs.Tryz.func76,Proofs.Tryz.ntmps76
 go_wp2
 all_goals refine bodyPost_ret (results_tmp rfl _ _ _) rfl ?_
 all_goals exact⟨rfl,rfl⟩
def î(ga:Nat)(x:Int)(w:World):
  Calls Proofs.Tryz.prog 186 #[.pointer (some ⟨ga,0,none⟩),.int .i64 x,.bool true] w λe w'=>e= .returned (.func (.func 205) #[] #[.pointer (some ⟨w.heap.size+1,0,none⟩),.pointer (some ⟨w.heap.size,0,none⟩),.pointer (some ⟨w.heap.size+1+1,0,none⟩)])/\
   w'=((w.alloc (.cells #[.pointer (some ⟨ga,0,none⟩)] 36)).alloc (.cells #[.int .i64 x] 3)).alloc (.cells #[.bool true] 4):=by
 have a:∀(fn:Fn) (first cap:Array Value) (w:World),(Instr.makeFunc fn first cap).run Proofs.Tryz.prog w= .ok (.func fn first cap) w:=λ_ _ _ _=>rfl;go_enter Proofs.Tryz.func186,Proofs.Tryz.ntmps186
 go_wp2
 go_ret
 exact⟨rfl,rfl⟩
def cM{cs:List Aa}{off n:Nat}{up:Int}{k:Nat}{b:Bool}(h:J0 cs off n up k 0=some b):b=false:=by cases k<;>simp[J0] at h<;>exact h
def cN{cs:List Aa}{off n:Nat}{up x:Int}{k:Nat}{b:Bool}(h:J0 cs off n up k x=some b)(hx:x≠0):∃k',k=k'+1/\
  ((x=up/\b=true)\/(x≠up/\1<=x/\x<=n/\∃p q,FH cs off x 1=some p/\FH cs off x 12=some q/\J0 cs off n up k' (if p=0 then q else p)=some b)):=by
 cases k with
 |zero=>
  rw[J0] at h;. cases h
  .exact λe=>hx e
 |succ k=>
  refine⟨k,rfl,?_⟩;rw[J0] at h
  .split at h;.rename_i e;cases h;exact .inl ⟨e,rfl⟩
   .rename_i e;split at h
    .rename_i hr;split at h;.rename_i p q c a;exact .inr ⟨e,hr.1,hr.2,p,q,c,a,h⟩
     .cases h
    .cases h
  .exact λe=>hx e
structure Y3(Ba Bo ga gn off n cap:Nat)(cs:List Aa)(W:World):Prop where
 a:W.cell? ⟨Ba,0,none⟩=some (.pointer (some ⟨ga,0,none⟩))
 o:W.cell? ⟨Bo,0,none⟩=some (.bool true)
 c:W.cell? ⟨ga,0,none⟩=some (.slice (some ⟨gn,off,none⟩) n cap)
 x:∀(h:Int) (k:Nat) (v:Int),1<=h->h<=n->(k=1\/k=12)->FH cs off h k=some v->W.cell? ⟨gn,off+(h.toNat-1)*13+k,none⟩=some (.int .i64 v)
def Y3.Iy{Ba Bo ga gn off n cap:Nat}{cs:List Aa}{A B:World}(h:Y3 Ba Bo ga gn off n cap cs A)(hk:∀b,b=Ba\/b=Bo\/b=ga\/b=gn->B.heap[b]?=A.heap[b]?):Y3 Ba Bo ga gn off n cap cs B:=
 ⟨by rw[B1 (hk _ Av)];exact h.a,by rw[B1 (hk _ Av)];exact h.o,by rw[B1 (hk _ Av)];exact h.c,
  λx k v h1 h2 h3 d=>by rw[B1 (hk _ Av)];exact h.x x k v h1 h2 h3 d⟩
def iH{Ba Bo ga gn off n cap a:Nat}{cs:List Aa}{A:World}{u:Value}{J:World->Prop}(c:∀A B row,J A->A.grownBy B row->(∀r,row=some r->r=a)->J B)
  (hd:∀b,b=Ba\/b=Bo\/b=ga\/b=gn->b≠a) (hs:Y3 Ba Bo ga gn off n cap cs A) (hc:A.cell? ⟨a,0,none⟩=some u) (hf:A.frozen? ⟨a,0,none⟩=false) (hj:J A) (v:Value):
  Y3 Ba Bo ga gn off n cap cs (A.setCell ⟨a,0,none⟩ v)/\(A.setCell ⟨a,0,none⟩ v).cell? ⟨a,0,none⟩=some v/\(A.setCell ⟨a,0,none⟩ v).frozen? ⟨a,0,none⟩=false/\J (A.setCell ⟨a,0,none⟩ v):=
 ⟨hs.Iy λb hb=>Below.heap_setCell _ _ _ b (hd b hb),World.cell?_setCell_same _ _ _ hc,by rw[World.frozen?_setCell];exact hf,c _ _ _ hj (grownBy_setCell' A a v) λr e=>by cases e;rfl⟩
def ï(m l d Ba Bo n₁ ga gn off n cap:Nat)(cs:List Aa)(up:Int)(J C:World->Prop)
  (y:∀A B row,J A->A.grownBy B row->(∀r,row=some r->r=d)->J B)
  (I:∀x W,J W->YieldAt Fence.wide (m-1) Proofs.Tryz.prog l #[.int .i64 x] W λe W'=>(e= .returned (.bool true)/\J W'/\Below n₁ W W'/\x≠up)\/(e= .returned (.bool false)/\C W'/\x=up))
  (hd:∀b,b=Ba\/b=Bo\/b=ga\/b=gn->b<n₁/\b≠d) (g:d<n₁) (MQ:n<=cap) (hm:cap<=maxLen)
  (W:World) (h:Int) (hs:Y3 Ba Bo ga gn off n cap cs W) (j:W.cell? ⟨d,0,none⟩=some (.int .i64 h)) (hf:W.frozen? ⟨d,0,none⟩=false)
  (fuel:Nat) (b:Bool) (hcl:J0 cs off n up fuel h=some b) (h0:J W):
  CallsIn Fence.wide m Proofs.Tryz.prog 205 #[.func (.yield l) #[] #[],.pointer (some ⟨d,0,none⟩),.pointer (some ⟨Ba,0,none⟩),.pointer (some ⟨Bo,0,none⟩)] W λe W'=>(∃v,e= .returned v)/\((b=false/\J W')\/(b=true/\C W')):=by
 refine callsIn_of_wp Proofs.Tryz.func205 rfl trivial ?_ rfl;simp only[Proofs.Tryz.ntmps205,Bx,AO,Bq,Nat.reduceAdd,Nat.reduceSub,Em,En,Fs,EG,Bt,Cl];gi_wp2
 gi_loopg [] fuel (λk wr=>∃x,J0 cs off n up k x=some b/\Y3 Ba Bo ga gn off n cap cs wr/\wr.cell? ⟨d,0,none⟩=some (.int .i64 x)/\wr.frozen? ⟨d,0,none⟩=false/\J wr)
 case atStart=>exact⟨h,hcl,hs,j,hf,h0⟩
 case round=>
  obtain⟨x,hcl,hs,j,hf,hj⟩:=hrel;by_cases hx:x=0
  .subst hx;have:=cM hcl;subst this;gi_wp2
   refine⟨nofun,?_⟩;gi_wp2
   go_end0
   exact⟨⟨_,rfl⟩,hj⟩
  .obtain⟨k',rfl,Gq⟩:=cN hcl hx;have hne:(x != 0)=true:=by simp[hx]
   obtain⟨fn,tmps,assign,body,hy,hR⟩:=I x wr hj;gi_wp2
   refine⟨nofun,?_⟩;refine hR.mono ?_;rintro e W3 (⟨rfl,t,Tt,jk⟩|⟨rfl,f,jk⟩)
   .rcases Gq with⟨rfl,_⟩|⟨_,h1,h2,p,q,L,K,pv⟩
    .exact absurd rfl jk
    have zt:=hs.Iy λb hb=>Tt.block b (hd b hb).1;have i:W3.cell? ⟨d,0,none⟩=some (.int .i64 x):=by rw[B1 (Tt.block d g)];exact j
    have s:W3.frozen? ⟨d,0,none⟩=false:=by rw[<-hf];simp only[World.frozen?,Tt.block d g]
    have hp:=zt.x x 1 p h1 h2 (.inl rfl) L;have hq:=zt.x x 12 q h1 h2 (.inr rfl) K;have N:=zt.a;have M:=zt.o;have F:¬Bo=d:=(hd Bo Av).2;have E:¬gn=d:=(hd gn Av).2;gi_wp2
    refine⟨trivial,nofun,(callsIn_wide.2 (í ga gn off n cap x _ zt.c h1 h2 MQ hm)).mono ?_⟩;rintro e w' ⟨rfl,rfl⟩;obtain⟨u,z,z4,w⟩:=iH y (λb hb=>(hd b hb).2) zt i s t (.int .i64 p);by_cases n_:p=0
    .subst n_;obtain⟨D,O,z5,G⟩:=iH y (λb hb=>(hd b hb).2) u z z4 w (.int .i64 q);gi_wp2
     gi_roundg k'
     case measure=>omega
     case rel=>exact⟨q,pv,D,O,z5,G⟩
    .have H:(p==0)=false:=by simp[n_]
     gi_wp2
     gi_roundg k'
     case measure=>omega
     case rel=>exact⟨p,by rw[Ac n_] at pv;exact pv,u,z,z4,w⟩
   .rcases Gq with⟨_,rfl⟩|⟨aBM,_⟩
    .gi_wp2
     go_end0
     exact⟨⟨_,rfl⟩,f⟩
    .exact absurd jk aBM
def px(n₁:Nat)(up:Int)(I a:World->Prop)(x:Int)(W:World):Exit->Act->World->Prop
 | .normal,_,W'=>KeepsOthers W W'/\Below n₁ W W'/\I W'/\x≠up
 | .ret,_,W'=>KeepsOthers W W'/\a W'/\x=up
 | .exit _,_,_=>False
 | .goto _,_,_=>False
 | .panic _,_,_=>False
 | .outgrown,_,_=>False
def W9{P:Program}{n gf:Nat}{lb:Array Value}{g:Operand}{ps:Array Tmp}{assign body:Code}{Q:Exit->Act->World->Prop}{a:Act}{w:World}(f:Nat)(b:Bool)(up:Int)
  (hg:a.eval g= .func (.func gf) #[] lb) (s:∀args w,(callFunc gf args).run P w= .ok (.enter gf args) w) (q:f<w.heap.size)
  (cO:∀(l:Nat) (J m:World->Prop) (W:World),Below w.heap.size w W->(∀A B row,J A->A.grownBy B row->(∀r,row=some r->r=f)->J B)->
   (∀x W1,J W1->YieldAt Fence.wide (n-1 -1) P l #[.int .i64 x] W1 λe W'=>(e= .returned (.bool true)/\J W'/\Below w.heap.size W1 W'/\x≠up)\/(e= .returned (.bool false)/\m W'/\x=up))->J W->
   CallsIn Fence.wide (n-1) P gf (#[.func (.yield l) #[] #[]]++lb) W λe W'=>(∃v,e= .returned v)/\((b=false/\J W')\/(b=true/\m W')))
  (nG:ps.size=1) (I d:World->Prop) (hI:∀A B row,I A->A.grownBy B row->(∀r,row=some r->r=f\/w.heap.size<=r)->I B)
  (hIx:∀A B row,d A->A.grownBy B row->(∀r,row=some r->r=f\/w.heap.size<=r)->d B) (h0:I w) (a₁:Int->Act)
  (hassign:∀(l:Nat) (x:Int) (W:World) (K:Act->World->Prop),K (a₁ x) W->
   assign.wpIn (Fence.wide.inRound l) (n-1 -1) P (Exit.then K (λ_ _ _=>False)) {tmps:=(ps.zip #[.int .i64 x]).foldl (λt (p,v)=>t.setIfInBounds p v) a.tmps,defers:=[]} W)
  (Nf:∀(l:Nat) (x:Int) (W:World),I W->body.wpIn (Fence.wide.inRound l) (n-1 -1) P (px w.heap.size up I d x W) (a₁ x) W)
  (Tu:∀(D:Nat) (W:World),b=false->I W->W.heap[D]?=some (.deferred (some []))->w.heap.size<=D->Q .normal {a with defers:={target:= .collected D,args:=#[]}::a.defers} W)
  (tE:∀(D:Nat) (W:World),b=true->d W->W.heap[D]?=some (.deferred (some []))->w.heap.size<=D->Code.ret.wpIn Fence.wide n P Q {a with defers:={target:= .collected D,args:=#[]}::a.defers} W):
  (Code.rangeFunc g ps assign body).wpIn Fence.wide n P Q a w:=by
 refine wpIn_rangeFunc ?_;intro fn rV;have hro:Fence.wide.round=none:=rfl;rw[hro];obtain⟨rec,LO⟩:∃rec:LoopState->Option Code->Loop,rec=λst o=>{state:=st,pending:=o,fn,tmps:=a.tmps,params:=ps,assign,body,defers:=w.heap.size}:=⟨_,rfl⟩;obtain⟨W1,c⟩:∃W1,(w.alloc (.deferred (some []))).alloc (.loop (rec .ready none))=W1:=⟨_,rfl⟩;have h:W1.heap[w.heap.size+1]?=some (.loop (rec .ready none)):=by rw[<-c];have:=World.alloc_heap_new (w.alloc (.deferred (some []))) (.loop (rec .ready none));rwa [World.size_alloc] at this
 have i:W1.heap[w.heap.size]?=some (.deferred (some [])):=by rw[<-c];exact(Below.heap_alloc _ _ _ Av).trans (World.alloc_heap_new w _)
 have j:I W1:=by rw[<-c];exact hI _ _ none (hI _ _ none h0 (World.grownBy_alloc _ _ none) nofun) (World.grownBy_alloc _ _ none) nofun
 have O8:Below w.heap.size w W1:=by rw[<-c];exact(((Below.refl _ w).alloc (Ae _) _).alloc Av _)
 refine⟨w.heap.size+1,[{target:= .collected w.heap.size,args:=#[]}],W1,{target:= .fn (.func gf) lb,args:=#[.func (.yield (w.heap.size+1)) #[] #[]]},W1,gf,
  #[.func (.yield (w.heap.size+1)) #[] #[]]++lb,W1,?_,?_,?_,?_,nofun,?_⟩
 .rw[<-c,LO];exact run_enterLoop_outer _ _ _ _ _
 .simp only[resolve,hg];simp[go_sem]
 .intro f' Ye;trivial
 .simp[invoke,go_sem,s]
 .refine(cO (w.heap.size+1)
   (λW=>I W/\W.heap[w.heap.size+1]?=some (.loop (rec .ready none))/\W.heap[w.heap.size]?=some (.deferred (some [])))
   (λW=>d W/\W.heap[w.heap.size+1]?=some (.loop (rec .done (some .ret)))/\W.heap[w.heap.size]?=some (.deferred (some [])))
   W1 O8
   (λA B row hs hg' hr=>⟨hI A B row hs.1 hg' (λr e=> .inl (hr r e)),(hg'.block _ (Aq.1 hs.2.1).1 (λe=>by have:=hr _ e.symm;omega)).trans hs.2.1,
    (hg'.block _ (Aq.1 hs.2.2).1 (λe=>by have:=hr _ e.symm;omega)).trans hs.2.2⟩)
   ?_ ⟨j,h,i⟩).mono ?_
  .rintro x W ⟨hi,hl,hk⟩;have hlt:w.heap.size+1<W.heap.size:=(Aq.1 hl).1;have hy:=run_yield (P:=P) (args:=#[.int .i64 x]) hl (by rw[LO];exact nG.symm);rw[LO] at hy;refine⟨fn,_,assign,body,hy,roundIn_of_wpIn rV (hassign _ x W _ ⟨_,run_beginRound hl (by rw[LO]),?_⟩)⟩;have Yi:(W.putObj (w.heap.size+1) (.loop {rec .ready none with state:= .busy})).heap[w.heap.size+1]?=some (.loop {rec .ready none with state:= .busy}):=World.putObj_heap_same hlt;have O7:(W.putObj (w.heap.size+1) (.loop {rec .ready none with state:= .busy})).heap[w.heap.size]?=some (.deferred (some [])):=(World.putObj_heap_other Ab).trans hk;have nK:Below w.heap.size W (W.putObj (w.heap.size+1) (.loop {rec .ready none with state:= .busy})):=belowK_b (Ae _) W _ _ _ Ab hl rfl rfl;refine wpIn_mono (Nf _ x _ (hI _ _ _ hi (grownBy_putObj' W _ _) (λr e=> .inr (by cases e;omega)))) ?_;have HT:∀(jump:Option Code) (W3:World),KeepsOthers (W.putObj (w.heap.size+1) (.loop {rec .ready none with state:= .busy})) W3->
     (Instr.endRound (w.heap.size+1) jump).run P W3= .ok (.bool jump.isNone) (W3.putObj (w.heap.size+1) (.loop (rec (if jump.isNone then .ready else .done) jump)))/\
     W3.heap[w.heap.size+1]?=some (.loop {rec .ready none with state:= .busy})/\
     (W3.putObj (w.heap.size+1) (.loop (rec (if jump.isNone then .ready else .done) jump))).heap[w.heap.size+1]?=some (.loop (rec (if jump.isNone then .ready else .done) jump))/\
     (W3.putObj (w.heap.size+1) (.loop (rec (if jump.isNone then .ready else .done) jump))).heap[w.heap.size]?=some (.deferred (some [])):=λjump W3 Tt=>by
    have VO:=Tt.same _ _ Yi rfl;have:=run_endRound (P:=P) jump VO;rw[LO] at this⊢;exact⟨this,by rw[LO] at VO;exact VO,World.putObj_heap_same (Aq.1 VO).1,(World.putObj_heap_other Ab).trans (Tt.same _ _ O7 rfl)⟩
   rintro e a3 W3 hp;cases e with
   |normal=>obtain⟨Tt,py,ak,hne⟩:=hp;obtain⟨hr,VO,zu,qH⟩:=HT none W3 Tt;exact⟨_,_,hr,.inl ⟨rfl,⟨hI _ _ _ ak (grownBy_putObj' W3 _ _) (λr e=> .inr (by cases e;omega)),zu,qH⟩,(nK.trans py).trans (belowK_b (Ae _) W3 _ _ _ Ab VO rfl rfl),hne⟩⟩
   |ret=>obtain⟨Tt,ak,he⟩:=hp;obtain⟨hr,VO,zu,qH⟩:=HT (some .ret) W3 Tt;exact⟨_,_,hr,.inr ⟨rfl,⟨hIx _ _ _ ak (grownBy_putObj' W3 _ _) (λr e=> .inr (by cases e;omega)),zu,qH⟩,he⟩⟩
   |exit id=>exact hp.elim
   |goto t=>exact hp.elim
   |panic u=>exact hp.elim
   |outgrown=>exact hp.elim
  .rintro e k ⟨⟨v,rfl⟩,⟨hb,hi,hl,hk⟩|⟨hb,hi,hl,hk⟩⟩;.exact⟨none,_,by have:=run_endLoop (P:=P) hl (by rw[LO];simp);rw[LO] at this;exact this,Tu _ _ hb (hI _ _ _ hi (grownBy_putObj' k _ _) (λr e=> .inr (by cases e;omega))) ((World.putObj_heap_other Ab).trans hk) (Ae _)⟩
   .exact⟨some .ret,_,by have:=run_endLoop (P:=P) hl (by rw[LO];simp);rw[LO] at this;exact this,tE _ _ hb (hIx _ _ _ hi (grownBy_putObj' k _ _) (λr e=> .inr (by cases e;omega))) ((World.putObj_heap_other Ab).trans hk) (Ae _)⟩
def Cm{W:World}{k j:Nat}{v:Value}(o:Obj)(h:W.cell? ⟨k,j,none⟩=some v):(W.alloc o).cell? ⟨k,j,none⟩=some v:=by rw[World.cell?_alloc_past _ _ _ (CL h)];exact h
def Jq{W:World}{k j:Nat}{v:Value}(o:Obj)(h:W.cell? ⟨k,j,none⟩=some v):(W.alloc o).frozen? ⟨k,j,none⟩=W.frozen? ⟨k,j,none⟩:=
 World.frozen?_alloc_past _ _ _ (CL h)
def I8(W:World)(v:Value)(t:TypeId):(W.alloc (.cells #[v] t)).cell? ⟨W.heap.size,0,none⟩=some v/\(W.alloc (.cells #[v] t)).frozen? ⟨W.heap.size,0,none⟩=false:=by
 have h:(W.alloc (.cells #[v] t)).heap[W.heap.size]?=some (.cells #[v] t (0,0)):=World.alloc_heap_new W _;constructor;.simp only[World.cell?,h];rfl
 .simp only[World.frozen?,h];rfl
def Tv{A B:World}{row:Option Nat}{k:Nat}{v:Value}(h:A.cell? ⟨k,0,none⟩=some v)(hg:A.grownBy B row)(hr:∀r,row=some r->k≠r):
  B.cell? ⟨k,0,none⟩=some v/\B.frozen? ⟨k,0,none⟩=A.frozen? ⟨k,0,none⟩:=by
 have hb:B.heap[k]?=A.heap[k]?:=hg.block k (CL h) (λe=>hr k e.symm rfl);exact⟨by rw[B1 hb];exact h,by simp only[World.frozen?,hb]⟩
def pz(ga gn off n cap:Nat)(cs:List Aa)(up x:Int)(w:World)(ð:ga<w.heap.size)(jl:gn<w.heap.size)(MQ:n<=cap)(hm:cap<=maxLen)
  (hc:w.cell? ⟨ga,0,none⟩=some (.slice (some ⟨gn,off,none⟩) n cap))
  (hx:∀(h:Int) (k:Nat) (v:Int),1<=h->h<=n->(k=1\/k=12)->FH cs off h k=some v->w.cell? ⟨gn,off+(h.toNat-1)*13+k,none⟩=some (.int .i64 v))
  (b:Bool) (hcl:J0 cs off n up (n+1) x=some b) (WK:1<=up) (PG:up<=n) (QG:1<=x) (Xa:x<=n):
  Calls Proofs.Tryz.prog 165 #[.pointer (some ⟨ga,0,none⟩),.int .i64 up,.int .i64 x] w λe w'=>e= .returned (.bool b)/\Below w.heap.size w w':=by
 refine(callsIn_wide (n:=5)).1 ?_;refine callsIn_of_wp_marks Proofs.Tryz.func165 rfl trivial ?_;simp only[Proofs.Tryz.ntmps165,Bx,AO,Bq,Nat.reduceAdd,Nat.reduceSub,Em,En,Fs,EG,Bt,Cl];have m:((w.alloc (.cells #[.int .i64 up] 3)).alloc (.cells #[.bool false] 4)).cell? ⟨ga,0,none⟩=some (.slice (some ⟨gn,off,none⟩) n cap):=by rw[World.cell?_alloc_past _ _ _ Ew,World.cell?_alloc_past _ _ _ ð];exact hc
 have q:=I8 w (.int .i64 up) 3;have a:=I8 (w.alloc (.cells #[.int .i64 up] 3)) (.bool false) 4;have p:=I8 ((w.alloc (.cells #[.int .i64 up] 3)).alloc (.cells #[.bool false] 4)) (.pointer (some ⟨ga,0,none⟩)) 36;have d:=I8 (((w.alloc (.cells #[.int .i64 up] 3)).alloc (.cells #[.bool false] 4)).alloc (.cells #[.pointer (some ⟨ga,0,none⟩)] 36)) (.int .i64 x) 3;have o:=I8 ((((w.alloc (.cells #[.int .i64 up] 3)).alloc (.cells #[.bool false] 4)).alloc (.cells #[.pointer (some ⟨ga,0,none⟩)] 36)).alloc (.cells #[.int .i64 x] 3)) (.bool true) 4;simp only[World.size_alloc] at a p d o;have C:decide (1<=up/\up<=n)=true:=AW ⟨WK,PG⟩;have z:decide (1<=x/\x<=n)=true:=AW ⟨QG,Xa⟩;gi_wp2
 refine⟨trivial,(callsIn_wide.2 (VP ga _ n cap up _ m)).mono ?_⟩;rintro e w' ⟨rfl,rfl⟩;rw[C];gi_wp2
 refine⟨trivial,(callsIn_wide.2 (VP ga _ n cap x _ m)).mono ?_⟩;rintro e w' ⟨rfl,rfl⟩;rw[z];gi_wp2
 refine⟨trivial,(callsIn_wide.2 (î ga x _)).mono ?_⟩;rintro e w' ⟨rfl,rfl⟩;gi_wp2
 refine W9 (gf:=205) (lb:=#[.pointer (some ⟨w.heap.size+1+1+1,0,none⟩),.pointer (some ⟨w.heap.size+1+1,0,none⟩),.pointer (some ⟨w.heap.size+1+1+1+1,0,none⟩)]) (w.heap.size+1+1+1) b up rfl (Go.Proofs.enters_of Proofs.Tryz.func205 AU rfl) Av
  ?cO rfl
  (λW=>Below w.heap.size w W/\W.cell? ⟨w.heap.size,0,none⟩=some (.int .i64 up)/\W.cell? ⟨w.heap.size+1,0,none⟩=some (.bool false)/\W.frozen? ⟨w.heap.size+1,0,none⟩=false)
  (λW=>Below w.heap.size w W/\W.cell? ⟨w.heap.size+1,0,none⟩=some (.bool true)) ?hI ?hIx ?h0
  (λy=>{tmps:=#[.pointer (some ⟨ga,0,none⟩),.int .i64 up,.int .i64 x,undef,.pointer (some ⟨w.heap.size,0,none⟩),undef,.pointer (some ⟨w.heap.size+1,0,none⟩),.int .i64 y,.pointer (some ⟨ga,0,none⟩),.int .i64 up,.bool true,.bool false,.bool false,.pointer (some ⟨ga,0,none⟩),.int .i64 x,.bool true,.bool false,.bool false,.pointer (some ⟨ga,0,none⟩),.int .i64 x,.func (.func 205) #[] #[.pointer (some ⟨w.heap.size+1+1+1,0,none⟩),.pointer (some ⟨w.heap.size+1+1,0,none⟩),.pointer (some ⟨w.heap.size+1+1+1+1,0,none⟩)],.int .i64 y,undef,undef,undef],defers:=[]})
  ?hassign ?Nf ?Tu ?tE
 case hI=>rintro A B row ⟨h1,h2,h3,i⟩ hg hr;have KM:=CL h3;have s:=Tv h2 hg (λr e=>by rcases hr r e with rfl|h<;>simp at* <;>omega);have f:=Tv h3 hg (λr e=>by rcases hr r e with rfl|h<;>simp at* <;>omega);exact⟨h1.grown hg Ab (λk e=>by rcases hr k e with rfl|h<;>simp at* <;>omega),s.1,f.1,f.2.trans i⟩
 case hIx=>rintro A B row ⟨h1,h3⟩ hg hr;have KM:=CL h3;have f:=Tv h3 hg (λr e=>by rcases hr r e with rfl|h<;>simp at* <;>omega);exact⟨h1.grown hg Ab (λk e=>by rcases hr k e with rfl|h<;>simp at* <;>omega),f.1⟩
 case h0=>
  refine⟨(((((Below.refl _ w).alloc (Ae _) _).alloc Av _).alloc Ew _).alloc Ew _).alloc Ew _,?_,?_,?_⟩;.exact Cm _ (Cm _ (Cm _ (Cm _ q.1)))
  .exact Cm _ (Cm _ (Cm _ a.1))
  .rw[Jq _ (Cm _ (Cm _ a.1)),Jq _ (Cm _ a.1),Jq _ a.1];exact a.2
 case cO=>
  intro l J E W hW u t hj;have kk:∀{k j:Nat} {v:Value},(((((w.alloc (.cells #[.int .i64 up] 3)).alloc (.cells #[.bool false] 4)).alloc (.cells #[.pointer (some ⟨ga,0,none⟩)] 36)).alloc (.cells #[.int .i64 x] 3)).alloc (.cells #[.bool true] 4)).cell? ⟨k,j,none⟩=some v->W.cell? ⟨k,j,none⟩=some v:=
   λ{k j v} h=>by rw[B1 (hW.block k (CL h))];exact h
  have hs:Y3 (w.heap.size+1+1) (w.heap.size+1+1+1+1) ga gn off n cap cs W:=
   ⟨kk (Cm _ (Cm _ p.1)),kk o.1,kk (Cm _ (Cm _ (Cm _ m))),λh k v h1 h2 h3 i=>kk (Cm _ (Cm _ (Cm _ (Cm _ (Cm _ (hx h k v h1 h2 h3 i))))))⟩
  refine ï 4 l (w.heap.size+1+1+1) (w.heap.size+1+1) (w.heap.size+1+1+1+1) _ ga gn off n cap cs up J E u t ?_ Av MQ hm W x hs (kk (Cm _ d.1)) ?_ (n+1) b hcl hj;.rintro b (rfl|rfl|rfl|rfl)<;>simp<;>omega
  .have:W.frozen? ⟨w.heap.size+1+1+1,0,none⟩=_:=World.frozen?_of_block (hW.block (w.heap.size+1+1+1) Av);rw[this,Jq _ d.1];exact d.2
 case hassign=>
  intro l y W K hK;have p_:=Oper.semAt_some l;gi_wp2
  exact hK
 case Nf=>
  rintro l y W ⟨hb,UN,JJ,gu⟩;have p_:=Oper.semAt_some l;gi_wp2
  .rename_i he;obtain rfl:y=up:=eq_of_beq he;exact⟨KeepsOthers.setCell _ _ _,⟨hb.setCell (EL _) _,World.cell?_setCell_same _ _ _ JJ⟩,rfl⟩
  .rename_i he;exact⟨KeepsOthers.refl _,Below.refl _ _,⟨hb,UN,JJ,gu⟩,λe=>by subst e;simp at he⟩
 case Tu=>
  rintro D W rfl ⟨hb,UN,JJ,gu⟩ hK g;gi_wp2
  have c:=(KeepsOthers.setCell W ⟨w.heap.size+1,0,none⟩ (.bool false)).same D _ hK rfl;have zw:=cell_kept (World.cell?_setCell_same W ⟨w.heap.size+1,0,none⟩ (.bool false) JJ) (grownBy_putObj' _ D (.deferred none)) (λr e=>by cases e;exact⟨_,c,rfl⟩);refine⟨Av,.inl ⟨_,_,rfl,run_takeDeferred c,?_⟩⟩;refine⟨.bool false,?_,rfl,(hb.setCell (EL _) _).grown (grownBy_putObj' _ D _) (by have:=CL JJ;simp;omega) (λk e=>by cases e;simp at g;omega)⟩;simp[results,Proofs.Tryz.f165,go_sem,zw]
 case tE=>
  rintro D W rfl ⟨hb,JJ⟩ hK g;gi_wp2
  have zw:=cell_kept JJ (grownBy_putObj' _ D (.deferred none)) (λr e=>by cases e;exact⟨_,hK,rfl⟩);refine⟨Av,.inl ⟨_,_,rfl,run_takeDeferred hK,?_⟩⟩;refine⟨.bool true,?_,rfl,hb.grown (grownBy_putObj' _ D _) (by have:=CL JJ;omega) (λk e=>by cases e;simp at g;omega)⟩;simp[results,Proofs.Tryz.f165,go_sem,zw]
def Tw(ga:Nat)(p:Option Addr)(n cap:Nat)(up x:Int)(w:World)(hc:w.cell? ⟨ga,0,none⟩=some (.slice p n cap))(ho:¬(1<=up/\up<=n/\1<=x/\x<=n)):
  Calls Proofs.Tryz.prog 165 #[.pointer (some ⟨ga,0,none⟩),.int .i64 up,.int .i64 x] w λe w'=>e= .returned (.bool false)/\Below w.heap.size w w':=by
 have c:((w.alloc (.cells #[.int .i64 up] 3)).alloc (.cells #[.bool false] 4)).cell? ⟨ga,0,none⟩=some (.slice p n cap):=Cm _ (Cm _ hc);have a:=I8 (w.alloc (.cells #[.int .i64 up] 3)) (.bool false) 4;simp only[World.size_alloc] at a;have hb:Below w.heap.size w ((w.alloc (.cells #[.int .i64 up] 3)).alloc (.cells #[.bool false] 4)):=((Below.refl _ w).alloc (Ae _) _).alloc Av _;refine(callsIn_wide (n:=5)).1 ?_;refine callsIn_of_wp Proofs.Tryz.func165 rfl trivial ?_ rfl;simp only[Proofs.Tryz.ntmps165,Bx,AO,Bq,Nat.reduceAdd,Nat.reduceSub,Em,En,Fs,EG,Bt,Cl];by_cases h1:1<=up/\up<=n
 .have b:decide (1<=up/\up<=n)=true:=AW h1;have d:decide (1<=x/\x<=n)=false:=A4 λh2=>ho ⟨h1.1,h1.2,h2.1,h2.2⟩;gi_wp2
  refine⟨trivial,(callsIn_wide.2 (VP ga _ n cap up _ c)).mono ?_⟩;rintro e w' ⟨rfl,rfl⟩;rw[b];gi_wp2
  refine⟨trivial,(callsIn_wide.2 (VP ga _ n cap x _ c)).mono ?_⟩;rintro e w' ⟨rfl,rfl⟩;rw[d];gi_wp2
  refine bodyPost_ret (v:= .bool false) ?_ rfl ⟨rfl,hb⟩;simp[results,Proofs.Tryz.f165,go_sem,a.1]
 .have b:decide (1<=up/\up<=n)=false:=A4 h1;gi_wp2
  refine⟨trivial,(callsIn_wide.2 (VP ga _ n cap up _ c)).mono ?_⟩;rintro e w' ⟨rfl,rfl⟩;rw[b];gi_wp2
  refine⟨trivial,?_⟩;gi_wp2
  refine bodyPost_ret (v:= .bool false) ?_ rfl ⟨rfl,hb⟩;simp[results,Proofs.Tryz.f165,go_sem,a.1]
section
variable{h:Ah}
def Xb{cs:List Aa}{off:Nat}{x:Int}{k:Nat}{v:Int}(e:FH cs off x k=some v):cs[off+(x.toNat-1)*13+k]?=some (.int .i64 v):=by
 unfold FH at e;split at e;.rename_i a;cases e;exact a
 .cases e
def au(n:Nat)(args:List Aa)(r:Aa)(h':Ah)(AH:IT.step (BY cx) (IT.run (BY cx) n) (LL args) h=some (.ret,[r],h')):
  (∃fn c,cx.P.funcs[DX 165]?=some fn/\(fn.name== "runtime.NumGoroutine")=false/\fn.body=some c)/\
  ∀(U:Gh) (w:World) (cargs:Array Value),Gm U h w->(∀g cs,cx.FV g=some cs->Cz U cs g 0)->AQ U args cargs.toList->
   Calls cx.P (DX 165) cargs w λe w'=>match e with
    | .returned v=>∃d,Gm d h' w'/\Kf U w d w'/\Bv d r v/\(cx.HX 165=true->∃s c,HB d w.heap.size w' s c v r)
    |_=>False:=by
 refine⟨⟨_,_,Proofs.Tryz.func165,rfl,rfl⟩,λU w cargs hi hg ha=>?_⟩;simp only[LL,IT.step,D2] at AH;cases e0:LK h args with
 |none=>simp[e0] at AH
 |some C=>
 obtain⟨h1,E⟩:=C;simp only[e0] at AH;cases AH;have HT:∀(b:Bool) (cs:Array Value),h'=h->r= .bool b->Calls Proofs.Tryz.prog 165 cs w (λe w'=>e= .returned (.bool b)/\Below w.heap.size w w')->
   Calls cx.P (DX 165) cs w λe w'=>match e with
    | .returned v=>∃d,Gm d h' w'/\Kf U w d w'/\Bv d r v/\(cx.HX 165=true->∃s c,HB d w.heap.size w' s c v r)
    |_=>False:=by
  rintro b cs rfl rfl hc;refine hc.mono λe w' he=>?_;obtain⟨rfl,hb⟩:=he;obtain⟨VF,Pw⟩:=hi.JA hb;exact⟨U,VF,Pw,rfl,λe=>by cases e⟩
 unfold LK at e0;split at e0
 .rename_i id up x;obtain⟨v0,us,yM,⟨g,hm,rfl⟩,D,zl,rfl,rfl,v2,bF,rfl,rfl,hnil⟩:=ha;cases hnil;have a:cargs=#[.pointer (some ⟨g,0,none⟩),.int .i64 up,.int .i64 x]:=by apply Fw;simpa using yM
  subst a;split at e0;.rename_i l hc;cases e0;obtain⟨_,y,hy,m⟩:=hi.PF hc hm (j:=0) rfl;cases m;exact HT false _ rfl rfl (Tw g none 0 0 up x w hy Ab)
  .rename_i A off len l hc;split at e0
   .rename_i cs hcs;split at e0
    .rename_i hl;obtain⟨_,y,hy,gn,cap,jb,rfl,q,⟨F,p⟩,o⟩:=hi.PF hc hm (j:=0) rfl;have ð:g<w.heap.size:=CL hy;have jl:gn<w.heap.size:=by obtain⟨⟨us,e,fr,u,G⟩,_⟩:=hi.sz gn _ o;exact(Aq.1 u).1
     split at e0
     .rename_i hr;cases f:J0 cs off len up (len+1) x with
      |none=>simp[f] at e0
      |some b=>simp only[f,BO,Bs,HV] at e0;obtain⟨rfl,rfl⟩:=e0;refine HT b _ rfl rfl (pz g gn off len cap cs up x w ð jl q p hy (λt k v h1 h2 h3 B=>?_) b f hr.1 hr.2.1 hr.2.2.1 hr.2.2.2);obtain⟨_,z,hz,i⟩:=hi.PF hcs jb (Xb B);cases i;exact hz
     .rename_i hr;cases e0;exact HT false _ rfl rfl (Tw g _ len cap up x w hy hr)
    .cases e0
   .cases e0
  .cases e0
 .cases e0
end
def MH{T e:TypeId}{B b:Nat}{bs:List Value}{W W':World}(h:Lib.IsBuilder T e B b bs W)(hb:Below W.heap.size W W'):Lib.IsBuilder T e B b bs W':=by
 have key:∀p,Lib.BuilderAt T e B b p bs W->Lib.BuilderAt T e B b p bs W':=λp ⟨hB,v,zj,hown,hne⟩=>by refine⟨hB,v,(hb.block b (Aq.1 zj).1).trans zj,?_,hne⟩;exact hown.kept (row:=none) ⟨hb.os,hb.tape,hb.output,hb.size,λk hk _=>hb.block k hk⟩ (Classical.em _)
 exact h.imp (key _) (key _)
def I9(a b:List UInt8):Lib.byteCells (a++b)=Lib.byteCells a++Lib.byteCells b:=by simp[Lib.byteCells]
def byteCells_length(a:List UInt8):(Lib.byteCells a).length=a.length:=by simp[Lib.byteCells]
def cP(d:Nat):Lib.repeatL [32,32] d=List.replicate (2*d) 32:=by
 induction d with
 |zero=>rfl
 |succ d ih=>rw[Lib.repeatL,ih,(Ab:2*(d+1)=2*d+1+1),Ji,Ji];rfl
def cQ:∀a:Aa,a.KK=true->a.still=true
 | .bool _,_=>rfl
 | .int _ _,_=>rfl
 | .str _,_=>rfl
 |a,h=>by cases a<;>first|rfl|simp[Aa.KK] at h
def RA:∀l:List Aa,l.all Aa.KK=true->H6 l=true
 |[],_=>rfl
 |a::l,h=>by simp only[Ws,Bf] at h;simp only[H6,Bf];exact⟨cQ a h.1,RA l h.2⟩
section
variable{U:Gh}{h:Ah}{w:World}
def Y4(hi:Gm U h w){id g:Nat}{cs:List Aa}(hc:h[id]?=some (.cells cs))(hm:U.mu id=some g):∀(n o:Nat),o+n<=cs.length->KW (Cf cs 1 o n)=true->
  (Cf cs 1 o n).length=n/\DY (Fk w) (Cf cs 1 o n) 1 g o
 |0,o,_,_=>⟨rfl,trivial⟩
 |n+1,o,hl,hs=>by
  have hlt:o<cs.length:=Ab;have a:(cs.drop o).take 1=[cs[o]]:=by rw[AB hlt];rfl
  have X9:H6 ((cs.drop o).take 1)=true/\KW (Cf cs 1 (o+1) n)=true:=by simpa only[Cf,KW,Bf] using hs
  obtain⟨p,q⟩:=Y4 hi hc hm n (o+1) Ab X9.2;rw[a] at X9;have Hw:cs[o].still=true:=by simpa[H6] using X9.1
  obtain⟨u,hu,h1,hr⟩:=LM hi hc hm (Ak hlt);refine⟨by simp[Cf,p],?_⟩;simp only[Cf,a];exact⟨rfl,⟨⟨u,QF hu h1,Bv.mem hi _ _ Hw hr⟩,trivial⟩,q⟩
def Xc(w:World)(b o:Nat)(AX:List (List Aa)):Prop:=
 ∃v,w.cell? ⟨b,o,none⟩=some v/\((v= .slice none 0 0/\AX=[])\/
  (∃a c cap,v= .slice (some ⟨a,c,none⟩) AX.length cap/\AX.length<=cap/\cap<=maxLen/\a<w.heap.size/\DY (Fk w) AX 1 a c))
def tF(hi:Gm U h w){id g:Nat}(hm:U.mu id=some g){x:Int}{h1:Ah}{r:Aa}(e:nR h [.ptr (some (id,0)),.int .i64 x]=some (h1,r)):
  h1=h/\∃gn off n cap row c AX,r= .tuple [.B3 row,.int .i64 c,.sl 1 AX]/\g<w.heap.size/\gn<w.heap.size/\w.cell? ⟨g,0,none⟩=some (.slice (some ⟨gn,off,none⟩) n cap)/\n<=cap/\cap<=maxLen/\
   1<=x/\x<=n/\Cz (Fk w) row gn (off+(x.toNat-1)*13)/\w.cell? ⟨gn,off+(x.toNat-1)*13+11,none⟩=some (.int .i64 c)/\Xc w gn (off+(x.toNat-1)*13+2) AX:=by
 unfold nR at e;split at e
 .rename_i EZ x' IS;cases IS;split at e
  .rename_i X off n l hc;split at e
   .rename_i cs hcs;split at e
    .rename_i hx;split at e
     .rename_i A z G v t s q p o k Yg c jf hrow;split at e
      .rename_i Hw;simp only[H6,Bf,Hl] at Hw;obtain⟨s0,R,Q,P,O,N,M,L,K,C,B⟩:=Hw;obtain⟨_,y,hy,gn,cap,jb,rfl,J,⟨Y,I⟩,V⟩:=hi.PF hc hm (j:=0) rfl;have jl:gn<w.heap.size:=by obtain⟨⟨us,e,fr,D,W⟩,_⟩:=hi.sz gn _ V;exact(Aq.1 D).1
       have get:∀(j:Nat) (a:Aa),j<13->[A,z,G,v,t,s,q,p,o,k,Yg,.int .i64 c,jf][j]?=some a->cs[off+(x.toNat-1)*13+j]?=some a:=λj a hj ha=>by rw[<-hrow,Ch hj,Ci] at ha;exact ha
       have key:∀(j:Nat) (a:Aa),j<13->[A,z,G,v,t,s,q,p,o,k,Yg,.int .i64 c,jf][j]?=some a->a.still=true->∃u,(Fk w).GQ gn (off+(x.toNat-1)*13+j)=some u/\Bv (Fk w) a u:=λj a hj ha hs=>by obtain⟨u,hu,ho,hr⟩:=LM hi hcs jb (get j a hj ha);exact⟨u,QF hu ho,Bv.mem hi _ _ hs hr⟩
       have iI:w.cell? ⟨gn,off+(x.toNat-1)*13+11,none⟩=some (.int .i64 c):=by obtain⟨u,hu,_,hr⟩:=LM hi hcs jb (get 11 _ Ab rfl);cases hr;exact hu
       obtain⟨u2,PG,gS,KT⟩:=LM hi hcs jb (get 2 G Ab rfl);have mk:∀(E:Aa),(∃u,(Fk w).GQ gn (off+(x.toNat-1)*13+2)=some u/\Bv (Fk w) E u)->Cz (Fk w) [A,z,E,v,t,s,q,p,o,k,Yg,.int .i64 c,jf] gn (off+(x.toNat-1)*13):=λE h2=>⟨key 0 A Ab rfl s0,key 1 z Ab rfl R,h2,key 3 v Ab rfl Q,key 4 t Ab rfl P,key 5 s Ab rfl O,key 6 q Ab rfl N,key 7 p Ab rfl M,key 8 o Ab rfl L,key 9 k Ab rfl K,key 10 Yg Ab rfl C,key 11 _ Ab rfl rfl,key 12 jf Ab rfl B,trivial⟩
       have hg:=CL hy;split at e;.cases e;cases KT;exact⟨rfl,gn,off,n,cap,_,c,[],rfl,hg,jl,hy,J,I,hx.1,hx.2.1,mk _ ⟨_,QF PG gS,rfl⟩,iI,_,PG,.inl ⟨rfl,rfl⟩⟩
       .rename_i Kq f m;split at e
        .rename_i ks zS;split at e
         .rename_i hk;cases e;obtain⟨i,b,ñ,rfl,H,⟨r2,T⟩,S⟩:=KT;obtain⟨d,t2⟩:=Y4 hi zS ñ m f Ab hk.2;have F:i<w.heap.size:=by obtain⟨⟨us,e,fr,D,W⟩,_⟩:=hi.sz i _ S;exact(Aq.1 D).1
          refine⟨rfl,gn,off,n,cap,_,c,Cf ks 1 f m,rfl,hg,jl,hy,J,I,hx.1,hx.2.1,mk _ ⟨_,QF PG gS,⟨i,f,none⟩,b,by rw[d],by rw[d];exact H,.inl rfl,t2⟩,iI,_,PG,.inr ⟨i,f,b,by rw[d],by rw[d];exact H,T,F,t2⟩⟩
         .cases e
        .cases e
       .cases e
      .cases e
     .cases e
    .cases e
   .cases e
  .cases e
 .cases e
def aw{n:Nat}(hs:Ej cx (IT.run (BY cx) n))(hi:Gm U h w)(hg:∀g cs,cx.FV g=some cs->Cz U cs g 0){row:List Aa}{s:Au}{h1:Ah}(e:IT.run (BY cx) n (BY cx 135 [.B3 row]) []=some (.ret,[.str s],h1))
  {W:World} (hb:Below w.heap.size w W) {gn o:Nat} (hr:Cz (Fk w) row gn o):
  Calls Proofs.Tryz.prog 135 #[.pointer (some ⟨gn,o,none⟩)] W λe W'=>e= .returned (.string ⟨⟨s⟩⟩)/\Below W.heap.size W W':=by
 refine((hs.2 135 _ _ _ _ e).2 (Fk W) W #[.pointer (some ⟨gn,o,none⟩)] (sV W) (λg cs ij=>Cz.mono (Y1 hb) cs g 0 (Cz.mem hi cs g 0 (RA cs (hs.1.1 g cs ij)) (hg g cs ij)))
  ⟨_,_,rfl,⟨gn,o,rfl,Cz.mono (Y1 hb) row gn o hr⟩,rfl⟩).mono λe W' he=>?_
 cases e with
 |returned v=>obtain⟨a,_,ha,hv,_⟩:=he;cases hv;exact⟨rfl,ha.os,ha.tape,ha.output,ha.size,λk hk=>(ha.Iy k hk (λid=>by simp[Fk])).1⟩
 |_=>exact he.elim
end
def ax{w:World}{b o:Nat}{AX:List (List Aa)}(h:Xc w b o AX):∃p cap,w.cell? ⟨b,o,none⟩=some (.slice p AX.length cap)/\AX.length<=cap/\cap<=maxLen/\
  ∀(i:Nat) (y:Int),AX[i]?=some [.int .i64 y]->∃a c,p=some ⟨a,c,none⟩/\a<w.heap.size/\w.cell? ⟨a,c+i,none⟩=some (.int .i64 y):=by
 obtain⟨v,hv,⟨rfl,rfl⟩|⟨a,c,cap,rfl,h1,h2,h3,d⟩⟩:=h;.exact⟨none,0,hv,Ae _,Br,λi y hi=>by simp at hi⟩
 .refine⟨_,cap,hv,h1,h2,λi y hi=>⟨a,c,rfl,h3,?_⟩⟩;obtain⟨_,⟨u,hu,hr⟩,_⟩:=DY.get d hi;cases hr;have:=hu;simp only[Fk,Oa] at this;simpa using this.1
def Y5(l:List UInt8):Lib.strCells ⟨l.toArray⟩=Lib.byteCells l:=by simp[Lib.strCells,Lib.byteCells]
def Xd(l:List UInt8):Lib.strCells ⟨⟨l⟩⟩=Lib.byteCells l:=by simp[Lib.strCells,Lib.byteCells]
def Tx(i n:Nat)(h:i<n)(hn:n<=9223372036854775807):wrap64 ((i:Int)+1)=((i+1:Nat):Int):=by rw[Go.IntWalk.wrap64_in _ ⟨Ab,Ab⟩];omega
def VQ(d:Nat)(h:d<=1000):wrap64 ((d:Int)+1)=((d+1:Nat):Int):=by rw[Go.IntWalk.wrap64_in _ ⟨Ab,Ab⟩];omega
abbrev qI(g:Nat)(w0:World)(x:Int)(d:Nat)(Dh ON:Au):Prop:=
 ∀(B b:Nat) (W:World),w0.heap.size<=B->B<=W.heap.size->Below w0.heap.size w0 W->Lib.IsBuilder 128 5 B b (Lib.byteCells Dh) W->
  Calls Proofs.Tryz.prog 73 #[.pointer (some ⟨g,0,none⟩),.pointer (some ⟨b,0,none⟩),.int .i64 x,.int .i64 d] W λe W'=>(∃v,e= .returned v)/\Lib.IsBuilder 128 5 B b (Lib.byteCells ON) W'/\Below B W W'
def nW{p:Prop}(h:p):Hid p:=h
def Kr{w0 W':World}{k j:Nat}{v:Value}(hb:Below w0.heap.size w0 W')(h:w0.cell? ⟨k,j,none⟩=some v):W'.cell? ⟨k,j,none⟩=some v:=by rw[B1 (hb.block k (CL h))];exact h
def cR:Code->Code
 | .seq _ c=>cR c
 | .block _ c=>c
 |c=>c
noncomputable def tG:Code:=match Proofs.Tryz.f73.body with
 |some c=>cR c
 |none=> .skip
def tH{w0 W W6:World}{g B b d a:Nat}{p:Option Addr}{AX:List (List Aa)}(hB:w0.heap.size<=B)(h:B<=W.heap.size)(hb:Below w0.heap.size w0 W)(hd:d<=1000)
  (O7:AX.length<=a) (Tt:a<=maxLen) (qH:∀(i:Nat) (y:Int),AX[i]?=some [.int .i64 y]->∃j ko,p=some ⟨j,ko,none⟩/\j<w0.heap.size/\w0.cell? ⟨j,ko+i,none⟩=some (.int .i64 y))
  (f:Nat->Au) (hf:∀i,i<AX.length->∃y,AX[i]?=some [.int .i64 y]/\qI g w0 y (d+1) (f i) (f (i+1))) (zx:Below B W W6) (l6:Lib.IsBuilder 128 5 B b (Lib.byteCells (f 0)) W6)
  (z2 z4 z5 z6 z7 z8 z9 z10 z11 z12 Z z14 Y z16 X V U z20 T z22 S R Q P O N M L K J I H G F z37 E D C A z x w u t s z51 r z53 q o n m l:Value):
  tG.wpIn Fence.wide 5 Proofs.Tryz.prog (Exit.inBlock 0<|bodyPost Proofs.Tryz.prog Proofs.Tryz.f73 λe W'=>(∃v,e= .returned v)/\Lib.IsBuilder 128 5 B b (Lib.byteCells (f AX.length)) W'/\Below B W W')
   {tmps:=#[.pointer (some ⟨g,0,none⟩),.pointer (some ⟨b,0,none⟩),z2,.int .i64 d,z4,z5,z6,z7,z8,z9,z10,z11,z12,Z,z14,Y,z16,X,V,U,z20,T,z22,S,R,Q,P,O,N,M,L,K,J,I,H,G,F,z37,E,D,C,A,z,x,w,u,.slice p AX.length a,.int .i64 AX.length,.int .i64 0,t,s,z51,r,z53,q,o,n,m,l],defers:=[]} W6:=by
 simp only[tG,cR,Proofs.Tryz.f73];gi_loopg [48] AX.length (λk v wr=>∃i,i<=AX.length/\k=AX.length-i/\v= .int .i64 (i:Nat)/\Below B W wr/\Lib.IsBuilder 128 5 B b (Lib.byteCells (f i)) wr)
 case atStart=>exact⟨0,AZ _,rfl,rfl,zx,l6⟩
 case round=>
  obtain⟨i,hi,rfl,rfl,bbi,li⟩:=hrel;by_cases hlt:i<AX.length
  .obtain⟨y,hy,jm⟩:=hf i hlt;obtain⟨j,ko,rfl,hgk,Ig⟩:=qH i y hy;have c:Below w0.heap.size w0 wr:=hb.trans (bbi.mono hB);have ci:=Kr c Ig;have aBP:(i:Int)<(AX.length:Int):=by exact_mod_cast hlt
   have hwi:=Tx i _ hlt (Bj O7 Tt);have hwd:=VQ d hd;have Sn:=jm B b _ hB (Bj h bbi.size) c li;clear jm hf qH O7 Tt c li l6 zx Ig hy hgk hB h hb;rw[show((d+1:Nat):Int)=(d:Int)+1 from rfl] at Sn;gi_wp2
   refine⟨trivial,(callsIn_wide.2 Sn).mono ?_⟩;rintro e W7 ⟨⟨v,rfl⟩,l7,b7⟩;gi_wp2
   gi_roundg (AX.length-(i+1))
   case measure=>exact Nat.sub_lt_sub_left hlt (Qh i)
   case rel=>refine⟨i+1,hlt,rfl,?_,bbi.trans b7,l7⟩;first|rfl|exact B8 (Value.int .i64) hwi
  .obtain rfl:i=AX.length:=Nat.le_antisymm hi (Nat.le_of_not_lt hlt);gi_wp2
   go_end0
   exact⟨⟨_,rfl⟩,li,bbi⟩
def qa{w0:World}{g gn off n cap:Nat}{c x:Int}{AX:List (List Aa)}(ot:g<w0.heap.size)(jl:gn<w0.heap.size)(hc:w0.cell? ⟨g,0,none⟩=some (.slice (some ⟨gn,off,none⟩) n cap))(MQ:n<=cap)(hm:cap<=maxLen)
  (QG:1<=x) (Xa:x<=n) (iJ:w0.cell? ⟨gn,off+(x.toNat-1)*13+11,none⟩=some (.int .i64 c)) (hk:Xc w0 gn (off+(x.toNat-1)*13+2) AX)
  {d:Nat} (hd:d<=1000) {Dh h s:Au}
  (iK:∀W,Below w0.heap.size w0 W->Calls Proofs.Tryz.prog 135 #[.pointer (some ⟨gn,off+(x.toNat-1)*13,none⟩)] W λe W'=>e= .returned (.string ⟨⟨s⟩⟩)/\Below W.heap.size W W')
  (hlen:(Dh++List.replicate (2*d) 32++s++[10]).length<=AN)
  (iL:(c=0/\h=Dh++List.replicate (2*d) 32++s++[10])\/(c≠0/\qI g w0 c (d+1) (Dh++List.replicate (2*d) 32++s++[10]) h))
  (f:Nat->Au) (yK:f 0=h) (hf:∀i,i<AX.length->∃y,AX[i]?=some [.int .i64 y]/\qI g w0 y (d+1) (f i) (f (i+1))):
  qI g w0 x d Dh (f AX.length):=by
 intro B b W hB a hb ò;obtain⟨p,K,SX,O7,Tt,qH⟩:=ax hk;have ir:AN=140737488355328:=rfl;simp only[Ap,EY,AO,Bq] at hlen;have J:2*d<=140737488355328:=by rw[ir] at hlen;omega
 have I:(Lib.byteCells Dh).length+(⟨(List.replicate (2*d) (32:UInt8)).toArray⟩:ByteArray).size<=140737488355328:=by rw[ir] at hlen;rw[byteCells_length];simp only[ByteArray.size,Bx,EY];omega
 have H:(Lib.byteCells (Dh++List.replicate (2*d) 32)).length+(⟨⟨s⟩⟩:ByteArray).size<=140737488355328:=by rw[ir] at hlen;rw[byteCells_length];simp only[ByteArray.size,Ap,EY];show _+s.length<=_;omega
 have G:(Lib.byteCells (Dh++List.replicate (2*d) 32++s)).length+1<=140737488355328:=by rw[ir] at hlen;rw[byteCells_length];simp only[Ap,EY];omega
 have F:d<=9223372036854775807:=Bj hd Br;clear hlen ir;have Hline:=nW iK;have l:=nW iL;have N:=nW hf;have t:=nW qH;have w:=nW O7;have u:=nW Tt;clear iK iL hf qH hk O7 Tt;refine(callsIn_wide (n:=5)).1 ?_;refine callsIn_of_wp Proofs.Tryz.func73 rfl trivial ?_ rfl;simp only[Proofs.Tryz.ntmps73,Bx,AO,Bq,Nat.reduceAdd,Nat.reduceSub,Em,En,Fs,EG,Bt,Cl];gi_wp2
 refine⟨trivial,(callsIn_wide.2 (í g gn off n cap x _ (Kr hb hc) QG Xa MQ hm)).mono ?_⟩;rintro e w' ⟨rfl,rfl⟩;gi_wp2
 refine⟨trivial,(callsIn_wide.2 (Proofs.Tryz.strings_Repeat ⟨#[32,32]⟩ d _ F J)).mono ?_⟩;rintro e W1 ⟨rfl,b1⟩;have O8:Below w0.heap.size w0 W1:=hb.trans (b1.mono hb.size);have r:Below B W W1:=b1.mono a;have l1:=MH ò b1;have hr:(Lib.repeatL (⟨#[32,32]⟩:ByteArray).data.toList d)=List.replicate (2*d) 32:=cP d;rw[hr];gi_wp2
 refine⟨trivial,(callsIn_wide.2 (Proofs.Tryz.Builder_WriteString B b (Lib.byteCells Dh) _ _ l1 I (Bj a r.size))).mono ?_⟩;rintro e R ⟨rfl,C,b2⟩;rw[Y5,<-I9] at C;have q:=r.trans b2;have MR:Below w0.heap.size w0 R:=O8.trans (b2.mono hB);gi_wp2
 refine⟨trivial,(callsIn_wide.2 (Hline.out _ MR)).mono ?_⟩;rintro e W3 ⟨rfl,b3⟩;have yP:Below w0.heap.size w0 W3:=MR.trans (b3.mono MR.size);have o:Below B W W3:=q.trans (b3.mono (Bj a q.size));have l3:=MH (.inr C) b3;gi_wp2
 refine⟨trivial,(callsIn_wide.2 (Proofs.Tryz.Builder_WriteString B b _ _ _ l3 H (Bj a o.size))).mono ?_⟩;rintro e Q ⟨rfl,l4,b4⟩;rw[Xd,<-I9] at l4;have m:=o.trans b4;have pt:Below w0.heap.size w0 Q:=yP.trans (b4.mono hB);gi_wp2
 refine⟨trivial,(callsIn_wide.2 (Proofs.Tryz.Builder_WriteByte B b _ 10 _ (.inr l4) G (Bj a m.size))).mono ?_⟩;rintro e M ⟨rfl,z,b5⟩;have E:Lib.byteCells (Dh++List.replicate (2*d) 32++s)++[Value.int .u8 10]=Lib.byteCells (Dh++List.replicate (2*d) 32++s++[10]):=by rw[I9 (Dh++List.replicate (2*d) 32++s) [10]];rfl
 replace z:=E▸z;have k:=m.trans b5;have j:Below w0.heap.size w0 M:=pt.trans (b5.mono hB);have S:=Kr j iJ;clear MQ hm QG Xa hc J I H G F l1 l3 l4 C;rcases l.out with⟨rfl,rfl⟩|⟨zy,tI⟩
 .have zx:=k;have l6:Lib.IsBuilder 128 5 B b (Lib.byteCells (f 0)) M:=by rw[yK];exact .inr z
  have P:=Kr j SX;gi_wp2
  exact tH hB a hb hd w.out u.out t.out f N.out zx l6 _ _ _ _ _ _ _ _ _ _ _ _ _ _ _ _ _ _ _ _ _ _ _ _ _ _ _ _ _ _ _ _ _ _ _ _ _ _ _ _ _ _ _ _ _ _ _ _ _ _ _ _ _
 .have hne:(c != 0)=true:=by simp[zy]
  have O:=VQ d hd;have ó:=tI B b _ hB (Bj a k.size) j (.inr z);rw[show((d+1:Nat):Int)=(d:Int)+1 from rfl] at ó;gi_wp2
  refine⟨trivial,(callsIn_wide.2 ó).mono ?_⟩;rintro e L ⟨⟨v,rfl⟩,A,b6⟩;have zx:=k.trans b6;have D:Below w0.heap.size w0 L:=j.trans (b6.mono hB);have l6:Lib.IsBuilder 128 5 B b (Lib.byteCells (f 0)) L:=by rw[yK];exact A
  have P:=Kr D SX;gi_wp2
  exact tH hB a hb hd w.out u.out t.out f N.out zx l6 _ _ _ _ _ _ _ _ _ _ _ _ _ _ _ _ _ _ _ _ _ _ _ _ _ _ _ _ _ _ _ _ _ _ _ _ _ _ _ _ _ _ _ _ _ _ _ _ _ _ _ _ _
section
variable{U:Gh}{h:Ah}{w0:World}
abbrev qb(fuel d:Nat)(a:Aa):List Aa->(Au->IT)->Au->IT:=λKq K Dh=>match Kq with
 |[.int .i64 y]=>Gy 135 a fuel y (d+1) Dh K
 |_=> .fail
def Y6{run:IT->Ah->Option IW}{g fuel d:Nat}{a:Aa}(ih:∀(x:Int) (Dh:Au) (k:Au->IT) (res:IW),IT.step (BY cx) run (Gy 135 a fuel x (d+1) Dh k) h=some res->∃ON,IT.step (BY cx) run (k ON) h=some res/\qI g w0 x (d+1) Dh ON):
  ∀(AX:List (List Aa)) (Dh:Au) (k:Au->IT) (res:IW),IT.step (BY cx) run (AX.foldr (qb fuel d a) k Dh) h=some res->
   ∃f:Nat->Au,f 0=Dh/\IT.step (BY cx) run (k (f AX.length)) h=some res/\∀i,i<AX.length->∃y,AX[i]?=some [.int .i64 y]/\qI g w0 y (d+1) (f i) (f (i+1))
 |[],Dh,k,res,e=>⟨λ_=>Dh,rfl,e,λi hi=>by simp at hi⟩
 |Kq::AX,Dh,k,res,e=>by
  simp only[List.foldr_cons] at e;unfold qb at e;split at e
  .rename_i y;obtain⟨b,j,l⟩:=ih _ _ _ _ e;obtain⟨f,f0,f1,f2⟩:=Y6 ih AX b k res j;refine⟨λ|0=>Dh|i+1=>f i,rfl,f1,λi hi=>?_⟩;cases i with
   |zero=>
    have hc:qI g w0 y (d+1) Dh (f 0):=by rw[f0];exact l
    exact⟨y,rfl,hc⟩
   |succ i=>obtain⟨c,p,q⟩:=f2 i (by simpa using hi);exact⟨c,by simpa using p,q⟩
  .cases e
def tJ{run:IT->Ah->Option IW}{a:Aa}{x:Int}{d:Nat}{Dh:Au}{k:Au->IT}{res:IW}(fuel:Nat)(e:IT.step (BY cx) run (Gy 135 a fuel x d Dh k) h=some res):∃id,a= .ptr (some (id,0)):=by
 cases fuel with
 |zero=>simp[Gy,IT.step] at e
 |succ fuel=>
  simp only[Gy,IT.step,D2] at e;cases e0:nR h [a,.int .i64 x] with
  |none=>simp[e0] at e
  |some b=>
   unfold nR at e0;split at e0;.rename_i id x' IS;cases IS;exact⟨id,rfl⟩
   .cases e0
def Y7{n:Nat}(hs:Ej cx (IT.run (BY cx) n))(hi:Gm U h w0)(hg:∀g cs,cx.FV g=some cs->Cz U cs g 0){id g:Nat}(hm:U.mu id=some g):
  ∀(fuel:Nat) (x:Int) (d:Nat) (Dh:Au) (k:Au->IT) (res:IW),d+fuel<=1000->IT.step (BY cx) (IT.run (BY cx) n) (Gy 135 (.ptr (some (id,0))) fuel x d Dh k) h=some res->
   ∃ON,IT.step (BY cx) (IT.run (BY cx) n) (k ON) h=some res/\qI g w0 x d Dh ON/\∃p cap ln,w0.cell? ⟨g,0,none⟩=some (.slice p ln cap)/\1<=x/\x<=ln
 |0,x,d,Dh,k,res,_,e=>by simp[Gy,IT.step] at e
 |fuel+1,x,d,Dh,k,res,hd,e=>by
  simp only[Gy,IT.step,D2] at e;cases e0:nR h [.ptr (some (id,0)),.int .i64 x] with
  |none=>simp[e0] at e
  |some l=>
  obtain⟨h1,r⟩:=l;simp only[e0] at e;obtain⟨i,gn,off,o,cap,row,c,AX,rfl,ot,jl,hc,MQ,yQ,QG,Xa,hrow,iJ,hk⟩:=tF hi hm e0;simp only[IT.step] at e;rw[i] at e;clear i;cases b:IT.run (BY cx) n (BY cx 135 [.B3 row]) [] with
  |none=>simp[b] at e
  |some t=>
  simp only[b] at e;split at e
  .rename_i m yH IS;cases IS;split at e
   .split at e
    .rename_i s HI;split at e
     .rename_i hlen;have ih:∀(x:Int) (Dh:Au) (k:Au->IT) (res:IW),IT.step (BY cx) (IT.run (BY cx) n) (Gy 135 (.ptr (some (id,0))) fuel x (d+1) Dh k) h=some res->∃ON,IT.step (BY cx) (IT.run (BY cx) n) (k ON) h=some res/\qI g w0 x (d+1) Dh ON:=λx Dh k res e=>by obtain⟨ON,p,q,_⟩:=Y7 hs hi hg hm fuel x (d+1) Dh k res Ab e;exact⟨ON,p,q⟩
      have iK:∀W,Below w0.heap.size w0 W->Calls Proofs.Tryz.prog 135 #[.pointer (some ⟨gn,off+(x.toNat-1)*13,none⟩)] W λe W'=>e= .returned (.string ⟨⟨s⟩⟩)/\Below W.heap.size W W':=
       λW hb=>aw hs hi hg b hb hrow
      have HT:∀a,((c=0/\a=Dh++List.replicate (2*d) 32++s++[10])\/(c≠0/\qI g w0 c (d+1) (Dh++List.replicate (2*d) 32++s++[10]) a))->
        IT.step (BY cx) (IT.run (BY cx) n) (AX.foldr (qb fuel d (.ptr (some (id,0)))) k a) h=some res->∃ON,IT.step (BY cx) (IT.run (BY cx) n) (k ON) h=some res/\qI g w0 x d Dh ON/\∃p cap ln,w0.cell? ⟨g,0,none⟩=some (.slice p ln cap)/\1<=x/\x<=ln:=by
       intro a iL j;obtain⟨f,f0,f1,f2⟩:=Y6 ih AX a k res j;exact⟨f AX.length,f1,qa ot jl hc MQ yQ QG Xa iJ hk Ab iK hlen iL f f0 f2,_,_,_,hc,QG,Xa⟩
      split at e;.rename_i zy;exact HT _ (.inl ⟨zy,rfl⟩) e
      .rename_i zy;obtain⟨a,p,q⟩:=ih _ _ _ _ e;exact HT a (.inr ⟨zy,q⟩) p
     .cases e
    .cases e
   .cases e
  .cases e
end
def qg{w0:World}{g ln cap:Nat}{p:Option Addr}{x:Int}{s:Au}(ot:g<w0.heap.size)(hc:w0.cell? ⟨g,0,none⟩=some (.slice p ln cap))(QG:1<=x)(Xa:x<=ln)(tI:qI g w0 x 0 [] s):
  Calls Proofs.Tryz.prog 21 #[.pointer (some ⟨g,0,none⟩),.int .i64 x] w0 λe w'=>e= .returned (.string ⟨⟨s⟩⟩)/\Below w0.heap.size w0 w':=by
 have b:decide (1<=x/\x<=ln)=true:=AW ⟨QG,Xa⟩;have aBS:(w0.alloc (.cells #[.pointer none,.slice none 0 0] 128)).heap[w0.heap.size]?=some (.cells #[.pointer none,.slice none 0 0] 128 (0,0)):=World.alloc_heap_new w0 _;have O8:Below w0.heap.size w0 (w0.alloc (.cells #[.pointer none,.slice none 0 0] 128)):=(Below.refl _ w0).alloc (Ae _) _;have l1:Lib.IsBuilder 128 5 w0.heap.size w0.heap.size (Lib.byteCells []) (w0.alloc (.cells #[.pointer none,.slice none 0 0] 128)):=
  .inl ⟨Ae _,.slice none 0 0,aBS,World.ownsRow_nil _ _ _ _,by simp[Value.ownBlock]⟩
 have Sn:=tI w0.heap.size w0.heap.size _ (Ae _) Av O8 l1;rw[show((0:Nat):Int)=0 from rfl] at Sn;refine(callsIn_wide (n:=5)).1 ?_;refine callsIn_of_wp Proofs.Tryz.func21 rfl trivial ?_ rfl;simp only[Proofs.Tryz.ntmps21,Bx,AO,Bq,Nat.reduceAdd,Nat.reduceSub,Em,En,Fs,EG,Bt,Cl];gi_wp2
 refine⟨trivial,(callsIn_wide.2 (VP g _ ln cap x _ hc)).mono ?_⟩;rintro e w' ⟨rfl,rfl⟩;rw[b];gi_wp2
 refine⟨trivial,(callsIn_wide.2 Sn).mono ?_⟩;rintro e c ⟨⟨v,rfl⟩,a,b2⟩;gi_wp2
 refine⟨trivial,(callsIn_wide.2 (Proofs.Tryz.Builder_String_any w0.heap.size w0.heap.size s _ a (by have:=b2.size;have:=O8.size;omega))).mono ?_⟩;rintro e W3 ⟨rfl,b3⟩;gi_wp2
 refine bodyPost_ret (results_tmp rfl _ _ _) rfl ?_;exact⟨rfl,(O8.trans b2).trans b3⟩
def qi{h:Ah}(n:Nat)(hs:Ej cx (IT.run (BY cx) n))(args:List Aa)(r:Aa)(h':Ah)(AH:IT.step (BY cx) (IT.run (BY cx) n) (iE 135 args) h=some (.ret,[r],h')):
  (∃fn c,cx.P.funcs[DX 21]?=some fn/\(fn.name== "runtime.NumGoroutine")=false/\fn.body=some c)/\
  ∀(U:Gh) (w:World) (cargs:Array Value),Gm U h w->(∀g cs,cx.FV g=some cs->Cz U cs g 0)->AQ U args cargs.toList->
   Calls cx.P (DX 21) cargs w λe w'=>match e with
    | .returned v=>∃d,Gm d h' w'/\Kf U w d w'/\Bv d r v/\(cx.HX 21=true->∃s c,HB d w.heap.size w' s c v r)
    |_=>False:=by
 refine⟨⟨_,_,Proofs.Tryz.func21,rfl,rfl⟩,λU w cargs hi hg ha=>?_⟩;have aBT:∃id x,args=[.ptr (some (id,0)),.int .i64 x]:=by
  unfold iE at AH;split at AH;.rename_i a x;obtain⟨id,rfl⟩:=tJ _ AH;exact⟨id,x,rfl⟩
  .cases AH
 obtain⟨id,x,rfl⟩:=aBT;obtain⟨v0,us,yM,⟨g,hm,rfl⟩,i,zl,rfl,rfl,hnil⟩:=ha;cases hnil;have b:cargs=#[.pointer (some ⟨g,0,none⟩),.int .i64 x]:=by apply Fw;simpa using yM
 subst b;simp only[iE] at AH;obtain⟨Dh,f,tI,p,cap,ln,hc,QG,Xa⟩:=Y7 hs hi hg hm 100 x 0 [] _ _ Ab AH;cases f;refine(qg (CL hc) hc QG Xa tI).mono λe w' he=>?_;obtain⟨rfl,hb⟩:=he;obtain⟨VF,Pw⟩:=hi.JA hb;exact⟨U,VF,Pw,rfl,λe=>by cases e⟩
end Go.Am
end
