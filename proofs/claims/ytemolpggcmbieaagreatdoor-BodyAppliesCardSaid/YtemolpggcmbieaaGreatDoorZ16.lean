/- Lemmas -/
import Derived.Test.YtemolpggcmbieaaGreatDoorZ15
import Derived.RangeFuncBox
import Derived.OwnWalkIn
import Derived.TacticsInMore
import Derived.LoopNIn
import Derived.Sort.LoopGhostIn
set_option linter.all false
set_option maxHeartbeats 0
set_option maxRecDepth 100000
section
namespace Go.Am
open Go Go.RowKit Go.Shelf
def Zh(ga:Nat)(p:Option Addr)(n cap:Nat)(x:Int)(w:World)(hc:w.cell? ⟨ga,0,none⟩=some (.slice p n cap)):
  Calls Proofs.Tryz.prog 92 #[.pointer (some ⟨ga,0,none⟩),.int .i64 x] w λe w'=>e= .returned (.bool (decide (1<=x/\x<=n)))/\w=w':=by
 go_enter Proofs.Tryz.func92,Proofs.Tryz.ntmps92
 go_wp2
 all_goals refine bodyPost_ret (results_tmp rfl _ _ _) rfl ?_
 all_goals simp_all
 all_goals omega
def aE6(ga gn off n cap:Nat)(x:Int)(w:World)(hc:w.cell? ⟨ga,0,none⟩=some (.slice (some ⟨gn,off,none⟩) n cap))(h1:1<=x)(h2:x<=n)(O4:n<=cap)(hm:cap<=maxLen):
  Calls Proofs.Tryz.prog 96 #[.pointer (some ⟨ga,0,none⟩),.int .i64 x] w λe w'=>e= .returned (.pointer (some ⟨gn,off+(x.toNat-1)*13,none⟩))/\w=w':=by
 have hb:maxLen<=9223372036854775807:=AI;have hw:wrap64 (x-1)=x-1:=Go.IntWalk.wrap64_in _ ⟨Ac,Ac⟩;go_enter Proofs.Tryz.func96,Proofs.Tryz.ntmps96
 go_wp2
 all_goals refine bodyPost_ret (results_tmp rfl _ _ _) rfl ?_
 all_goals exact⟨rfl,rfl⟩
def aE7(ga:Nat)(x:Int)(w:World):
  Calls Proofs.Tryz.prog 229 #[.pointer (some ⟨ga,0,none⟩),.int .i64 x,.bool true] w λe w'=>e= .returned (.func (.func 270) #[] #[.pointer (some ⟨w.heap.size+1,0,none⟩),.pointer (some ⟨w.heap.size,0,none⟩),.pointer (some ⟨w.heap.size+1+1,0,none⟩)])/\
   w'=((w.alloc (.cells #[.pointer (some ⟨ga,0,none⟩)] 38)).alloc (.cells #[.int .i64 x] 3)).alloc (.cells #[.bool true] 4):=by
 have a:∀(fn:Fn) (first cap:Array Value) (w:World),(Instr.makeFunc fn first cap).run Proofs.Tryz.prog w= .ok (.func fn first cap) w:=λ_ _ _ _=>rfl;go_enter Proofs.Tryz.func229,Proofs.Tryz.ntmps229
 go_wp2
 go_ret
 exact⟨rfl,rfl⟩
def m6{cs:List Aa}{off n:Nat}{up:Int}{k:Nat}{b:Bool}(h:Ln cs off n up k 0=some b):b=false:=by cases k<;>simp[Ln] at h<;>exact h
def m7{cs:List Aa}{off n:Nat}{up x:Int}{k:Nat}{b:Bool}(h:Ln cs off n up k x=some b)(hx:x≠0):∃k',k=k'+1/\
  ((x=up/\b=true)\/(x≠up/\1<=x/\x<=n/\∃p q,Gq cs off x 1=some p/\Gq cs off x 12=some q/\Ln cs off n up k' (if p=0 then q else p)=some b)):=by
 cases k with
 |zero=>
  rw[Ln] at h;. cases h
  .exact λe=>hx e
 |succ k=>
  refine⟨k,rfl,?_⟩;rw[Ln] at h
  .split at h;.rename_i e;cases h;exact .inl ⟨e,rfl⟩
   .rename_i e;split at h
    .rename_i hr;split at h;.rename_i p q c a;exact .inr ⟨e,hr.1,hr.2,p,q,c,a,h⟩
     .cases h
    .cases h
  .exact λe=>hx e
structure gU(Ba Bo ga gn off n cap:Nat)(cs:List Aa)(W:World):Prop where
 a:W.cell? ⟨Ba,0,none⟩=some (.pointer (some ⟨ga,0,none⟩))
 o:W.cell? ⟨Bo,0,none⟩=some (.bool true)
 c:W.cell? ⟨ga,0,none⟩=some (.slice (some ⟨gn,off,none⟩) n cap)
 x:∀(h:Int) (k:Nat) (v:Int),1<=h->h<=n->(k=1\/k=12)->Gq cs off h k=some v->W.cell? ⟨gn,off+(h.toNat-1)*13+k,none⟩=some (.int .i64 v)
def gU.NF{Ba Bo ga gn off n cap:Nat}{cs:List Aa}{A B:World}(h:gU Ba Bo ga gn off n cap cs A)(hk:∀b,b=Ba\/b=Bo\/b=ga\/b=gn->B.heap[b]?=A.heap[b]?):gU Ba Bo ga gn off n cap cs B:=
 ⟨by rw[CI (hk _ Ax)];exact h.a,by rw[CI (hk _ Ax)];exact h.o,by rw[CI (hk _ Ax)];exact h.c,
  λx k v h1 h2 e d=>by rw[CI (hk _ Ax)];exact h.x x k v h1 h2 e d⟩
def rZ{Ba Bo ga gn off n cap a:Nat}{cs:List Aa}{A:World}{u:Value}{J:World->Prop}(c:∀A B row,J A->A.grownBy B row->(∀r,row=some r->r=a)->J B)
  (hd:∀b,b=Ba\/b=Bo\/b=ga\/b=gn->b≠a) (hs:gU Ba Bo ga gn off n cap cs A) (hc:A.cell? ⟨a,0,none⟩=some u) (hf:A.frozen? ⟨a,0,none⟩=false) (hj:J A) (v:Value):
  gU Ba Bo ga gn off n cap cs (A.setCell ⟨a,0,none⟩ v)/\(A.setCell ⟨a,0,none⟩ v).cell? ⟨a,0,none⟩=some v/\(A.setCell ⟨a,0,none⟩ v).frozen? ⟨a,0,none⟩=false/\J (A.setCell ⟨a,0,none⟩ v):=
 ⟨hs.NF λb hb=>Below.heap_setCell _ _ _ b (hd b hb),World.cell?_setCell_same _ _ _ hc,by rw[World.frozen?_setCell];exact hf,c _ _ _ hj (grownBy_setCell' A a v) λr e=>by cases e;rfl⟩
def aE8(m l d Ba Bo n₁ ga gn off n cap:Nat)(cs:List Aa)(up:Int)(J D:World->Prop)
  (z:∀A B row,J A->A.grownBy B row->(∀r,row=some r->r=d)->J B)
  (K:∀x W,J W->YieldAt Fence.wide (m-1) Proofs.Tryz.prog l #[.int .i64 x] W λe W'=>(e= .returned (.bool true)/\J W'/\Below n₁ W W'/\x≠up)\/(e= .returned (.bool false)/\D W'/\x=up))
  (hd:∀b,b=Ba\/b=Bo\/b=ga\/b=gn->b<n₁/\b≠d) (h:d<n₁) (O4:n<=cap) (hm:cap<=maxLen)
  (W:World) (i:Int) (hs:gU Ba Bo ga gn off n cap cs W) (s:W.cell? ⟨d,0,none⟩=some (.int .i64 i)) (hf:W.frozen? ⟨d,0,none⟩=false)
  (fuel:Nat) (b:Bool) (hcl:Ln cs off n up fuel i=some b) (h0:J W):
  CallsIn Fence.wide m Proofs.Tryz.prog 270 #[.func (.yield l) #[] #[],.pointer (some ⟨d,0,none⟩),.pointer (some ⟨Ba,0,none⟩),.pointer (some ⟨Bo,0,none⟩)] W λe W'=>(∃v,e= .returned v)/\((b=false/\J W')\/(b=true/\D W')):=by
 refine callsIn_of_wp Proofs.Tryz.func270 rfl trivial ?_ rfl;simp only[Proofs.Tryz.ntmps270,B3,AJ,Br,Nat.reduceAdd,Nat.reduceSub,J4,J5,Mc,KB,BO,CC];gi_wp2
 gi_loopg [] fuel (λk wr=>∃x,Ln cs off n up k x=some b/\gU Ba Bo ga gn off n cap cs wr/\wr.cell? ⟨d,0,none⟩=some (.int .i64 x)/\wr.frozen? ⟨d,0,none⟩=false/\J wr)
 case atStart=>exact⟨i,hcl,hs,s,hf,h0⟩
 case round=>
  obtain⟨x,hcl,hs,s,hf,hj⟩:=hrel;by_cases hx:x=0
  .subst hx;have:=m6 hcl;subst this;gi_wp2
   refine⟨nofun,?_⟩;gi_wp2
   go_end0
   exact⟨⟨_,rfl⟩,hj⟩
  .obtain⟨k',rfl,IC⟩:=m7 hcl hx;have hne:(x != 0)=true:=by simp[hx]
   obtain⟨fn,tmps,assign,body,hy,hR⟩:=K x wr hj;gi_wp2
   refine⟨nofun,?_⟩;refine hR.mono ?_;rintro e W3 (⟨rfl,u,lL,Ģ⟩|⟨rfl,g,Ģ⟩)
   .rcases IC with⟨rfl,_⟩|⟨_,h1,h2,p,q,M,L,Ź⟩
    .exact absurd rfl Ģ
    have f:=hs.NF λb hb=>lL.block b (hd b hb).1;have j:W3.cell? ⟨d,0,none⟩=some (.int .i64 x):=by rw[CI (lL.block d h)];exact s
    have t:W3.frozen? ⟨d,0,none⟩=false:=by rw[<-hf];simp only[World.frozen?,lL.block d h]
    have hp:=f.x x 1 p h1 h2 (.inl rfl) M;have hq:=f.x x 12 q h1 h2 (.inr rfl) L;have O:=f.a;have N:=f.o;have G:¬Bo=d:=(hd Bo Ax).2;have F:¬gn=d:=(hd gn Ax).2;gi_wp2
    refine⟨trivial,nofun,(callsIn_wide.2 (aE6 ga gn off n cap x _ f.c h1 h2 O4 hm)).mono ?_⟩;rintro e w' ⟨rfl,rfl⟩;obtain⟨w,C,z4,y⟩:=rZ z (λb hb=>(hd b hb).2) f j t u (.int .i64 p);by_cases ŝ:p=0
    .subst ŝ;obtain⟨E,P,z5,H⟩:=rZ z (λb hb=>(hd b hb).2) w C z4 y (.int .i64 q);gi_wp2
     gi_roundg k'
     case measure=>omega
     case rel=>exact⟨q,Ź,E,P,z5,H⟩
    .have I:(p==0)=false:=by simp[ŝ]
     gi_wp2
     gi_roundg k'
     case measure=>omega
     case rel=>exact⟨p,by rw[Ag ŝ] at Ź;exact Ź,w,C,z4,y⟩
   .rcases IC with⟨_,rfl⟩|⟨aJM,_⟩
    .gi_wp2
     go_end0
     exact⟨⟨_,rfl⟩,g⟩
    .exact absurd Ģ aJM
def ź(n₁:Nat)(up:Int)(I a:World->Prop)(x:Int)(W:World):Exit->Act->World->Prop
 | .normal,_,W'=>KeepsOthers W W'/\Below n₁ W W'/\I W'/\x≠up
 | .ret,_,W'=>KeepsOthers W W'/\a W'/\x=up
 | .exit _,_,_=>False
 | .goto _,_,_=>False
 | .panic _,_,_=>False
 | .outgrown,_,_=>False
def bA{P:Program}{n gf:Nat}{lb:Array Value}{g:Operand}{ps:Array Tmp}{assign body:Code}{Q:Exit->Act->World->Prop}{a:Act}{w:World}(h:Nat)(b:Bool)(up:Int)
  (hg:a.eval g= .func (.func gf) #[] lb) (u:∀args w,(callFunc gf args).run P w= .ok (.enter gf args) w) (s:h<w.heap.size)
  (Ż:∀(l:Nat) (J o:World->Prop) (W:World),Below w.heap.size w W->(∀A B row,J A->A.grownBy B row->(∀r,row=some r->r=h)->J B)->
   (∀x W1,J W1->YieldAt Fence.wide (n-1 -1) P l #[.int .i64 x] W1 λe W'=>(e= .returned (.bool true)/\J W'/\Below w.heap.size W1 W'/\x≠up)\/(e= .returned (.bool false)/\o W'/\x=up))->J W->
   CallsIn Fence.wide (n-1) P gf (#[.func (.yield l) #[] #[]]++lb) W λe W'=>(∃v,e= .returned v)/\((b=false/\J W')\/(b=true/\o W')))
  (yq:ps.size=1) (I f:World->Prop) (hI:∀A B row,I A->A.grownBy B row->(∀r,row=some r->r=h\/w.heap.size<=r)->I B)
  (hIx:∀A B row,f A->A.grownBy B row->(∀r,row=some r->r=h\/w.heap.size<=r)->f B) (h0:I w) (a₁:Int->Act)
  (hassign:∀(l:Nat) (x:Int) (W:World) (K:Act->World->Prop),K (a₁ x) W->
   assign.wpIn (Fence.wide.inRound l) (n-1 -1) P (Exit.then K (λ_ _ _=>False)) {tmps:=(ps.zip #[.int .i64 x]).foldl (λt (p,v)=>t.setIfInBounds p v) a.tmps,defers:=[]} W)
  (Wp:∀(l:Nat) (x:Int) (W:World),I W->body.wpIn (Fence.wide.inRound l) (n-1 -1) P (ź w.heap.size up I f x W) (a₁ x) W)
  (mh:∀(D:Nat) (W:World),b=false->I W->W.heap[D]?=some (.deferred (some []))->w.heap.size<=D->Q .normal {a with defers:={target:= .collected D,args:=#[]}::a.defers} W)
  (mi:∀(D:Nat) (W:World),b=true->f W->W.heap[D]?=some (.deferred (some []))->w.heap.size<=D->Code.ret.wpIn Fence.wide n P Q {a with defers:={target:= .collected D,args:=#[]}::a.defers} W):
  (Code.rangeFunc g ps assign body).wpIn Fence.wide n P Q a w:=by
 refine wpIn_rangeFunc ?_;intro fn yj;have hro:Fence.wide.round=none:=rfl;rw[hro];obtain⟨rec,UW⟩:∃rec:LoopState->Option Code->Loop,rec=λst q=>{state:=st,pending:=q,fn,tmps:=a.tmps,params:=ps,assign,body,defers:=w.heap.size}:=⟨_,rfl⟩;obtain⟨W1,c⟩:∃W1,(w.alloc (.deferred (some []))).alloc (.loop (rec .ready none))=W1:=⟨_,rfl⟩;have i:W1.heap[w.heap.size+1]?=some (.loop (rec .ready none)):=by rw[<-c];have:=World.alloc_heap_new (w.alloc (.deferred (some []))) (.loop (rec .ready none));rwa [World.size_alloc] at this
 have j:W1.heap[w.heap.size]?=some (.deferred (some [])):=by rw[<-c];exact(Below.heap_alloc _ _ _ Ax).trans (World.alloc_heap_new w _)
 have k:I W1:=by rw[<-c];exact hI _ _ none (hI _ _ none h0 (World.grownBy_alloc _ _ none) nofun) (World.grownBy_alloc _ _ none) nofun
 have S0:Below w.heap.size w W1:=by rw[<-c];exact(((Below.refl _ w).alloc (Ab _) _).alloc Ax _)
 refine⟨w.heap.size+1,[{target:= .collected w.heap.size,args:=#[]}],W1,{target:= .fn (.func gf) lb,args:=#[.func (.yield (w.heap.size+1)) #[] #[]]},W1,gf,
  #[.func (.yield (w.heap.size+1)) #[] #[]]++lb,W1,?_,?_,?_,?_,nofun,?_⟩
 .rw[<-c,UW];exact run_enterLoop_outer _ _ _ _ _
 .simp only[resolve,hg];simp[go_sem]
 .intro f' lf;trivial
 .simp[invoke,go_sem,u]
 .refine(Ż (w.heap.size+1)
   (λW=>I W/\W.heap[w.heap.size+1]?=some (.loop (rec .ready none))/\W.heap[w.heap.size]?=some (.deferred (some [])))
   (λW=>f W/\W.heap[w.heap.size+1]?=some (.loop (rec .done (some .ret)))/\W.heap[w.heap.size]?=some (.deferred (some [])))
   W1 S0
   (λA B row hs hg' hr=>⟨hI A B row hs.1 hg' (λr e=> .inl (hr r e)),(hg'.block _ (AN.1 hs.2.1).1 (λe=>by have:=hr _ e.symm;omega)).trans hs.2.1,
    (hg'.block _ (AN.1 hs.2.2).1 (λe=>by have:=hr _ e.symm;omega)).trans hs.2.2⟩)
   ?_ ⟨k,i,j⟩).mono ?_
  .rintro x W ⟨hi,hl,hk⟩;have hlt:w.heap.size+1<W.heap.size:=(AN.1 hl).1;have hy:=run_yield (P:=P) (args:=#[.int .i64 x]) hl (by rw[UW];exact yq.symm);rw[UW] at hy;refine⟨fn,_,assign,body,hy,roundIn_of_wpIn yj (hassign _ x W _ ⟨_,run_beginRound hl (by rw[UW]),?_⟩)⟩;have lK:(W.putObj (w.heap.size+1) (.loop {rec .ready none with state:= .busy})).heap[w.heap.size+1]?=some (.loop {rec .ready none with state:= .busy}):=World.putObj_heap_same hlt;have Ya:(W.putObj (w.heap.size+1) (.loop {rec .ready none with state:= .busy})).heap[w.heap.size]?=some (.deferred (some [])):=(World.putObj_heap_other Ac).trans hk;have kz:Below w.heap.size W (W.putObj (w.heap.size+1) (.loop {rec .ready none with state:= .busy})):=belowK_b (Ab _) W _ _ _ Ac hl rfl rfl;refine wpIn_mono (Wp _ x _ (hI _ _ _ hi (grownBy_putObj' W _ _) (λr e=> .inr (by cases e;omega)))) ?_;have ID:∀(jump:Option Code) (W3:World),KeepsOthers (W.putObj (w.heap.size+1) (.loop {rec .ready none with state:= .busy})) W3->
     (Instr.endRound (w.heap.size+1) jump).run P W3= .ok (.bool jump.isNone) (W3.putObj (w.heap.size+1) (.loop (rec (if jump.isNone then .ready else .done) jump)))/\
     W3.heap[w.heap.size+1]?=some (.loop {rec .ready none with state:= .busy})/\
     (W3.putObj (w.heap.size+1) (.loop (rec (if jump.isNone then .ready else .done) jump))).heap[w.heap.size+1]?=some (.loop (rec (if jump.isNone then .ready else .done) jump))/\
     (W3.putObj (w.heap.size+1) (.loop (rec (if jump.isNone then .ready else .done) jump))).heap[w.heap.size]?=some (.deferred (some [])):=λjump W3 lL=>by
    have rY:=lL.same _ _ lK rfl;have:=run_endRound (P:=P) jump rY;rw[UW] at this⊢;exact⟨this,by rw[UW] at rY;exact rY,World.putObj_heap_same (AN.1 rY).1,(World.putObj_heap_other Ac).trans (lL.same _ _ Ya rfl)⟩
   rintro e a3 W3 hp;cases e with
   |normal=>obtain⟨lL,aJO,Ŵ,hne⟩:=hp;obtain⟨hr,rY,d,zi⟩:=ID none W3 lL;exact⟨_,_,hr,.inl ⟨rfl,⟨hI _ _ _ Ŵ (grownBy_putObj' W3 _ _) (λr e=> .inr (by cases e;omega)),d,zi⟩,(kz.trans aJO).trans (belowK_b (Ab _) W3 _ _ _ Ac rY rfl rfl),hne⟩⟩
   |ret=>obtain⟨lL,Ŵ,he⟩:=hp;obtain⟨hr,rY,d,zi⟩:=ID (some .ret) W3 lL;exact⟨_,_,hr,.inr ⟨rfl,⟨hIx _ _ _ Ŵ (grownBy_putObj' W3 _ _) (λr e=> .inr (by cases e;omega)),d,zi⟩,he⟩⟩
   |exit id=>exact hp.elim
   |goto t=>exact hp.elim
   |panic y=>exact hp.elim
   |outgrown=>exact hp.elim
  .rintro e m ⟨⟨v,rfl⟩,⟨hb,hi,hl,hk⟩|⟨hb,hi,hl,hk⟩⟩;.exact⟨none,_,by have:=run_endLoop (P:=P) hl (by rw[UW];simp);rw[UW] at this;exact this,mh _ _ hb (hI _ _ _ hi (grownBy_putObj' m _ _) (λr e=> .inr (by cases e;omega))) ((World.putObj_heap_other Ac).trans hk) (Ab _)⟩
   .exact⟨some .ret,_,by have:=run_endLoop (P:=P) hl (by rw[UW];simp);rw[UW] at this;exact this,mi _ _ hb (hIx _ _ _ hi (grownBy_putObj' m _ _) (λr e=> .inr (by cases e;omega))) ((World.putObj_heap_other Ac).trans hk) (Ab _)⟩
def CJ{W:World}{k j:Nat}{v:Value}(o:Obj)(h:W.cell? ⟨k,j,none⟩=some v):(W.alloc o).cell? ⟨k,j,none⟩=some v:=by rw[World.cell?_alloc_past _ _ _ (Du h)];exact h
def KI{W:World}{k j:Nat}{v:Value}(o:Obj)(h:W.cell? ⟨k,j,none⟩=some v):(W.alloc o).frozen? ⟨k,j,none⟩=W.frozen? ⟨k,j,none⟩:=
 World.frozen?_alloc_past _ _ _ (Du h)
def LD(W:World)(v:Value)(t:TypeId):(W.alloc (.cells #[v] t)).cell? ⟨W.heap.size,0,none⟩=some v/\(W.alloc (.cells #[v] t)).frozen? ⟨W.heap.size,0,none⟩=false:=by
 have h:(W.alloc (.cells #[v] t)).heap[W.heap.size]?=some (.cells #[v] t (0,0)):=World.alloc_heap_new W _;constructor;.simp only[World.cell?,h];rfl
 .simp only[World.frozen?,h];rfl
def Wy{A B:World}{row:Option Nat}{k:Nat}{v:Value}(h:A.cell? ⟨k,0,none⟩=some v)(hg:A.grownBy B row)(hr:∀r,row=some r->k≠r):
  B.cell? ⟨k,0,none⟩=some v/\B.frozen? ⟨k,0,none⟩=A.frozen? ⟨k,0,none⟩:=by
 have hb:B.heap[k]?=A.heap[k]?:=hg.block k (Du h) (λe=>hr k e.symm rfl);exact⟨by rw[CI hb];exact h,by simp only[World.frozen?,hb]⟩
def ż(ga gn off n cap:Nat)(cs:List Aa)(up x:Int)(w:World)(o:ga<w.heap.size)(ģ:gn<w.heap.size)(O4:n<=cap)(hm:cap<=maxLen)
  (hc:w.cell? ⟨ga,0,none⟩=some (.slice (some ⟨gn,off,none⟩) n cap))
  (hx:∀(h:Int) (k:Nat) (v:Int),1<=h->h<=n->(k=1\/k=12)->Gq cs off h k=some v->w.cell? ⟨gn,off+(h.toNat-1)*13+k,none⟩=some (.int .i64 v))
  (b:Bool) (hcl:Ln cs off n up (n+1) x=some b) (aK:1<=up) (Ql:up<=n) (Tl:1<=x) (Yq:x<=n):
  Calls Proofs.Tryz.prog 144 #[.pointer (some ⟨ga,0,none⟩),.int .i64 up,.int .i64 x] w λe w'=>e= .returned (.bool b)/\Below w.heap.size w w':=by
 refine(callsIn_wide (n:=5)).1 ?_;refine callsIn_of_wp_marks Proofs.Tryz.func144 rfl trivial ?_;simp only[Proofs.Tryz.ntmps144,B3,AJ,Br,Nat.reduceAdd,Nat.reduceSub,J4,J5,Mc,KB,BO,CC];have s:((w.alloc (.cells #[.int .i64 up] 3)).alloc (.cells #[.bool false] 4)).cell? ⟨ga,0,none⟩=some (.slice (some ⟨gn,off,none⟩) n cap):=by rw[World.cell?_alloc_past _ _ _ Ed,World.cell?_alloc_past _ _ _ o];exact hc
 have z:=LD w (.int .i64 up) 3;have d:=LD (w.alloc (.cells #[.int .i64 up] 3)) (.bool false) 4;have u:=LD ((w.alloc (.cells #[.int .i64 up] 3)).alloc (.cells #[.bool false] 4)) (.pointer (some ⟨ga,0,none⟩)) 38;have i:=LD (((w.alloc (.cells #[.int .i64 up] 3)).alloc (.cells #[.bool false] 4)).alloc (.cells #[.pointer (some ⟨ga,0,none⟩)] 38)) (.int .i64 x) 3;have t:=LD ((((w.alloc (.cells #[.int .i64 up] 3)).alloc (.cells #[.bool false] 4)).alloc (.cells #[.pointer (some ⟨ga,0,none⟩)] 38)).alloc (.cells #[.int .i64 x] 3)) (.bool true) 4;simp only[World.size_alloc] at d u i t;have H:decide (1<=up/\up<=n)=true:=Al ⟨aK,Ql⟩;have G:decide (1<=x/\x<=n)=true:=Al ⟨Tl,Yq⟩;gi_wp2
 refine⟨trivial,(callsIn_wide.2 (Zh ga _ n cap up _ s)).mono ?_⟩;rintro e w' ⟨rfl,rfl⟩;rw[H];gi_wp2
 refine⟨trivial,(callsIn_wide.2 (Zh ga _ n cap x _ s)).mono ?_⟩;rintro e w' ⟨rfl,rfl⟩;rw[G];gi_wp2
 refine⟨trivial,(callsIn_wide.2 (aE7 ga x _)).mono ?_⟩;rintro e w' ⟨rfl,rfl⟩;gi_wp2
 refine bA (gf:=270) (lb:=#[.pointer (some ⟨w.heap.size+1+1+1,0,none⟩),.pointer (some ⟨w.heap.size+1+1,0,none⟩),.pointer (some ⟨w.heap.size+1+1+1+1,0,none⟩)]) (w.heap.size+1+1+1) b up rfl (Go.Proofs.enters_of Proofs.Tryz.func270 AF rfl) Ax
  ?Ż rfl
  (λW=>Below w.heap.size w W/\W.cell? ⟨w.heap.size,0,none⟩=some (.int .i64 up)/\W.cell? ⟨w.heap.size+1,0,none⟩=some (.bool false)/\W.frozen? ⟨w.heap.size+1,0,none⟩=false)
  (λW=>Below w.heap.size w W/\W.cell? ⟨w.heap.size+1,0,none⟩=some (.bool true)) ?hI ?hIx ?h0
  (λy=>{tmps:=#[.pointer (some ⟨ga,0,none⟩),.int .i64 up,.int .i64 x,undef,.pointer (some ⟨w.heap.size,0,none⟩),undef,.pointer (some ⟨w.heap.size+1,0,none⟩),.int .i64 y,.pointer (some ⟨ga,0,none⟩),.int .i64 up,.bool true,.bool false,.bool false,.pointer (some ⟨ga,0,none⟩),.int .i64 x,.bool true,.bool false,.bool false,.pointer (some ⟨ga,0,none⟩),.int .i64 x,.func (.func 270) #[] #[.pointer (some ⟨w.heap.size+1+1+1,0,none⟩),.pointer (some ⟨w.heap.size+1+1,0,none⟩),.pointer (some ⟨w.heap.size+1+1+1+1,0,none⟩)],.int .i64 y,undef,undef,undef],defers:=[]})
  ?hassign ?Wp ?mh ?mi
 case hI=>rintro A B row ⟨h1,h2,c,q⟩ hg hr;have Mh:=Du c;have C:=Wy h2 hg (λr e=>by rcases hr r e with rfl|h<;>simp at* <;>omega);have m:=Wy c hg (λr e=>by rcases hr r e with rfl|h<;>simp at* <;>omega);exact⟨h1.grown hg Ac (λk e=>by rcases hr k e with rfl|h<;>simp at* <;>omega),C.1,m.1,m.2.trans q⟩
 case hIx=>rintro A B row ⟨h1,c⟩ hg hr;have Mh:=Du c;have m:=Wy c hg (λr e=>by rcases hr r e with rfl|h<;>simp at* <;>omega);exact⟨h1.grown hg Ac (λk e=>by rcases hr k e with rfl|h<;>simp at* <;>omega),m.1⟩
 case h0=>
  refine⟨(((((Below.refl _ w).alloc (Ab _) _).alloc Ax _).alloc Ed _).alloc Ed _).alloc Ed _,?_,?_,?_⟩;.exact CJ _ (CJ _ (CJ _ (CJ _ z.1)))
  .exact CJ _ (CJ _ (CJ _ d.1))
  .rw[KI _ (CJ _ (CJ _ d.1)),KI _ (CJ _ d.1),KI _ d.1];exact d.2
 case Ż=>
  intro l J I W hW F E hj;have kk:∀{k j:Nat} {v:Value},(((((w.alloc (.cells #[.int .i64 up] 3)).alloc (.cells #[.bool false] 4)).alloc (.cells #[.pointer (some ⟨ga,0,none⟩)] 38)).alloc (.cells #[.int .i64 x] 3)).alloc (.cells #[.bool true] 4)).cell? ⟨k,j,none⟩=some v->W.cell? ⟨k,j,none⟩=some v:=
   λ{k j v} h=>by rw[CI (hW.block k (Du h))];exact h
  have hs:gU (w.heap.size+1+1) (w.heap.size+1+1+1+1) ga gn off n cap cs W:=
   ⟨kk (CJ _ (CJ _ u.1)),kk t.1,kk (CJ _ (CJ _ (CJ _ s))),λh k v h1 h2 c q=>kk (CJ _ (CJ _ (CJ _ (CJ _ (CJ _ (hx h k v h1 h2 c q))))))⟩
  refine aE8 4 l (w.heap.size+1+1+1) (w.heap.size+1+1) (w.heap.size+1+1+1+1) _ ga gn off n cap cs up J I F E ?_ Ax O4 hm W x hs (kk (CJ _ i.1)) ?_ (n+1) b hcl hj;.rintro b (rfl|rfl|rfl|rfl)<;>simp<;>omega
  .have:W.frozen? ⟨w.heap.size+1+1+1,0,none⟩=_:=World.frozen?_of_block (hW.block (w.heap.size+1+1+1) Ax);rw[this,KI _ i.1];exact i.2
 case hassign=>
  intro l y W K f;have aJQ:=Oper.semAt_some l;gi_wp2
  exact f
 case Wp=>
  rintro l y W ⟨hb,Yk,K9,fk⟩;have aJQ:=Oper.semAt_some l;gi_wp2
  .rename_i he;obtain rfl:y=up:=eq_of_beq he;exact⟨KeepsOthers.setCell _ _ _,⟨hb.setCell (Fm _) _,World.cell?_setCell_same _ _ _ K9⟩,rfl⟩
  .rename_i he;exact⟨KeepsOthers.refl _,Below.refl _ _,⟨hb,Yk,K9,fk⟩,λe=>by subst e;simp at he⟩
 case mh=>
  rintro D W rfl ⟨hb,Yk,K9,fk⟩ f p;gi_wp2
  have g:=(KeepsOthers.setCell W ⟨w.heap.size+1,0,none⟩ (.bool false)).same D _ f rfl;have a:=cell_kept (World.cell?_setCell_same W ⟨w.heap.size+1,0,none⟩ (.bool false) K9) (grownBy_putObj' _ D (.deferred none)) (λr e=>by cases e;exact⟨_,g,rfl⟩);refine⟨Ax,.inl ⟨_,_,rfl,run_takeDeferred g,?_⟩⟩;refine⟨.bool false,?_,rfl,(hb.setCell (Fm _) _).grown (grownBy_putObj' _ D _) (by have:=Du K9;simp;omega) (λk e=>by cases e;simp at p;omega)⟩;simp[results,Proofs.Tryz.f144,go_sem,a]
 case mi=>
  rintro D W rfl ⟨hb,K9⟩ f p;gi_wp2
  have a:=cell_kept K9 (grownBy_putObj' _ D (.deferred none)) (λr e=>by cases e;exact⟨_,f,rfl⟩);refine⟨Ax,.inl ⟨_,_,rfl,run_takeDeferred f,?_⟩⟩;refine⟨.bool true,?_,rfl,hb.grown (grownBy_putObj' _ D _) (by have:=Du K9;omega) (λk e=>by cases e;simp at p;omega)⟩;simp[results,Proofs.Tryz.f144,go_sem,a]
def Wz(ga:Nat)(p:Option Addr)(n cap:Nat)(up x:Int)(w:World)(hc:w.cell? ⟨ga,0,none⟩=some (.slice p n cap))(ho:¬(1<=up/\up<=n/\1<=x/\x<=n)):
  Calls Proofs.Tryz.prog 144 #[.pointer (some ⟨ga,0,none⟩),.int .i64 up,.int .i64 x] w λe w'=>e= .returned (.bool false)/\Below w.heap.size w w':=by
 have c:((w.alloc (.cells #[.int .i64 up] 3)).alloc (.cells #[.bool false] 4)).cell? ⟨ga,0,none⟩=some (.slice p n cap):=CJ _ (CJ _ hc);have a:=LD (w.alloc (.cells #[.int .i64 up] 3)) (.bool false) 4;simp only[World.size_alloc] at a;have hb:Below w.heap.size w ((w.alloc (.cells #[.int .i64 up] 3)).alloc (.cells #[.bool false] 4)):=((Below.refl _ w).alloc (Ab _) _).alloc Ax _;refine(callsIn_wide (n:=5)).1 ?_;refine callsIn_of_wp Proofs.Tryz.func144 rfl trivial ?_ rfl;simp only[Proofs.Tryz.ntmps144,B3,AJ,Br,Nat.reduceAdd,Nat.reduceSub,J4,J5,Mc,KB,BO,CC];by_cases h1:1<=up/\up<=n
 .have b:decide (1<=up/\up<=n)=true:=Al h1;have d:decide (1<=x/\x<=n)=false:=Ai λh2=>ho ⟨h1.1,h1.2,h2.1,h2.2⟩;gi_wp2
  refine⟨trivial,(callsIn_wide.2 (Zh ga _ n cap up _ c)).mono ?_⟩;rintro e w' ⟨rfl,rfl⟩;rw[b];gi_wp2
  refine⟨trivial,(callsIn_wide.2 (Zh ga _ n cap x _ c)).mono ?_⟩;rintro e w' ⟨rfl,rfl⟩;rw[d];gi_wp2
  refine bodyPost_ret (v:= .bool false) ?_ rfl ⟨rfl,hb⟩;simp[results,Proofs.Tryz.f144,go_sem,a.1]
 .have b:decide (1<=up/\up<=n)=false:=Ai h1;gi_wp2
  refine⟨trivial,(callsIn_wide.2 (Zh ga _ n cap up _ c)).mono ?_⟩;rintro e w' ⟨rfl,rfl⟩;rw[b];gi_wp2
  refine⟨trivial,?_⟩;gi_wp2
  refine bodyPost_ret (v:= .bool false) ?_ rfl ⟨rfl,hb⟩;simp[results,Proofs.Tryz.f144,go_sem,a.1]
section
variable{h:Ah}
def bB{cs:List Aa}{off:Nat}{x:Int}{k:Nat}{v:Int}(e:Gq cs off x k=some v):cs[off+(x.toNat-1)*13+k]?=some (.int .i64 v):=by
 unfold Gq at e;split at e;.rename_i a;cases e;exact a
 .cases e
def zj(n:Nat)(args:List Aa)(r:Aa)(h':Ah)(AG:IT.step (B7 cx) (IT.run (B7 cx) n) (Na args) h=some (.ret,[r],h')):
  (∃fn c,cx.P.funcs[Ec 144]?=some fn/\(fn.name== "runtime.NumGoroutine")=false/\fn.body=some c)/\
  ∀(U:Gh) (w:World) (cargs:Array Value),Hi U h w->(∀g cs,cx.Gy g=some cs->CP U cs g 0)->AV U args cargs.toList->
   Calls cx.P (Ec 144) cargs w λe w'=>match e with
    | .returned v=>∃d,Hi d h' w'/\LB U w d w'/\BI d r v/\(cx.I9 144=true->∃s c,IF d w.heap.size w' s c v r)
    |_=>False:=by
 refine⟨⟨_,_,Proofs.Tryz.func144,rfl,rfl⟩,λU w cargs hi hg ha=>?_⟩;simp only[Na,IT.step,DC] at AG;cases e0:M9 h args with
 |none=>simp[e0] at AG
 |some C=>
 obtain⟨h1,E⟩:=C;simp only[e0] at AG;cases AG;have ID:∀(b:Bool) (cs:Array Value),h'=h->r= .bool b->Calls Proofs.Tryz.prog 144 cs w (λe w'=>e= .returned (.bool b)/\Below w.heap.size w w')->
   Calls cx.P (Ec 144) cs w λe w'=>match e with
    | .returned v=>∃d,Hi d h' w'/\LB U w d w'/\BI d r v/\(cx.I9 144=true->∃s c,IF d w.heap.size w' s c v r)
    |_=>False:=by
  rintro b cs rfl rfl hc;refine hc.mono λe w' he=>?_;obtain⟨rfl,hb⟩:=he;obtain⟨T9,RT⟩:=hi.KU hb;exact⟨U,T9,RT,rfl,λe=>by cases e⟩
 unfold M9 at e0;split at e0
 .rename_i id up x;obtain⟨v0,us,xe,⟨g,hm,rfl⟩,D,Ţ,rfl,rfl,v2,lF,rfl,rfl,hnil⟩:=ha;cases hnil;have a:cargs=#[.pointer (some ⟨g,0,none⟩),.int .i64 up,.int .i64 x]:=by apply Gf;simpa using xe
  subst a;split at e0;.rename_i l hc;cases e0;obtain⟨_,y,hy,o⟩:=hi.RZ hc hm (j:=0) rfl;cases o;exact ID false _ rfl rfl (Wz g none 0 0 up x w hy Ac)
  .rename_i A off len l hc;split at e0
   .rename_i cs hcs;split at e0
    .rename_i hl;obtain⟨_,y,hy,gn,cap,ě,rfl,u,⟨F,q⟩,p⟩:=hi.RZ hc hm (j:=0) rfl;have f:g<w.heap.size:=Du hy;have ģ:gn<w.heap.size:=by obtain⟨⟨us,e,fr,p1,p2⟩,_⟩:=hi.sz gn _ p;exact(AN.1 p1).1
     split at e0
     .rename_i hr;cases i:Ln cs off len up (len+1) x with
      |none=>simp[i] at e0
      |some b=>simp only[i,Bt,Bx,MX] at e0;obtain⟨rfl,rfl⟩:=e0;refine ID b _ rfl rfl (ż g gn off len cap cs up x w f ģ u q hy (λt k v h1 h2 G B=>?_) b i hr.1 hr.2.1 hr.2.2.1 hr.2.2.2);obtain⟨_,z,hz,m⟩:=hi.RZ hcs ě (bB B);cases m;exact hz
     .rename_i hr;cases e0;exact ID false _ rfl rfl (Wz g _ len cap up x w hy hr)
    .cases e0
   .cases e0
  .cases e0
 .cases e0
end
def Ox{T e:TypeId}{B b:Nat}{bs:List Value}{W W':World}(h:Lib.IsBuilder T e B b bs W)(hb:Below W.heap.size W W'):Lib.IsBuilder T e B b bs W':=by
 have key:∀p,Lib.BuilderAt T e B b p bs W->Lib.BuilderAt T e B b p bs W':=λp ⟨hB,v,a,Fp,hne⟩=>by refine⟨hB,v,(hb.block b (AN.1 a).1).trans a,?_,hne⟩;exact Fp.kept (row:=none) ⟨hb.os,hb.tape,hb.output,hb.size,λk hk _=>hb.block k hk⟩ (Classical.em _)
 exact h.imp (key _) (key _)
def Kn(a b:List UInt8):Lib.byteCells (a++b)=Lib.byteCells a++Lib.byteCells b:=by simp[Lib.byteCells]
def byteCells_length(a:List UInt8):(Lib.byteCells a).length=a.length:=by simp[Lib.byteCells]
def m8(d:Nat):Lib.repeatL [32,32] d=List.replicate (2*d) 32:=by
 induction d with
 |zero=>rfl
 |succ d ih=>rw[Lib.repeatL,ih,(Ac:2*(d+1)=2*d+1+1),KA,KA];rfl
def m9:∀a:Aa,a.Mf=true->a.still=true
 | .bool _,_=>rfl
 | .int _ _,_=>rfl
 | .str _,_=>rfl
 |a,h=>by cases a<;>first|rfl|simp[Aa.Mf] at h
def Ul:∀l:List Aa,l.all Aa.Mf=true->Jc l=true
 |[],_=>rfl
 |a::l,h=>by simp only[Z3,AO] at h;simp only[Jc,AO];exact⟨m9 a h.1,Ul l h.2⟩
section
variable{U:Gh}{h:Ah}{w:World}
def gV(hi:Hi U h w){id g:Nat}{cs:List Aa}(hc:h[id]?=some (.cells cs))(hm:U.mu id=some g):∀(n o:Nat),o+n<=cs.length->Mt (Cs cs 1 o n)=true->
  (Cs cs 1 o n).length=n/\EG (F0 w) (Cs cs 1 o n) 1 g o
 |0,o,_,_=>⟨rfl,trivial⟩
 |n+1,o,hl,hs=>by
  have hlt:o<cs.length:=Ac;have a:(cs.drop o).take 1=[cs[o]]:=by rw[Az hlt];rfl
  have eW:Jc ((cs.drop o).take 1)=true/\Mt (Cs cs 1 (o+1) n)=true:=by simpa only[Cs,Mt,AO] using hs
  obtain⟨p,q⟩:=gV hi hc hm n (o+1) Ac eW.2;rw[a] at eW;have IP:cs[o].still=true:=by simpa[Jc] using eW.1
  obtain⟨u,hu,h1,hr⟩:=Nc hi hc hm (Au hlt);refine⟨by simp[Cs,p],?_⟩;simp only[Cs,a];exact⟨rfl,⟨⟨u,Tk hu h1,BI.mem hi _ _ IP hr⟩,trivial⟩,q⟩
def bC(w:World)(b o:Nat)(Bw:List (List Aa)):Prop:=
 ∃v,w.cell? ⟨b,o,none⟩=some v/\((v= .slice none 0 0/\Bw=[])\/
  (∃a c cap,v= .slice (some ⟨a,c,none⟩) Bw.length cap/\Bw.length<=cap/\cap<=maxLen/\a<w.heap.size/\EG (F0 w) Bw 1 a c))
def mj(hi:Hi U h w){id g:Nat}(hm:U.mu id=some g){x:Int}{h1:Ah}{r:Aa}(e:ao h [.ptr (some (id,0)),.int .i64 x]=some (h1,r)):
  h1=h/\∃gn off n cap row c Bw,r= .tuple [.BW row,.int .i64 c,.sl 1 Bw]/\g<w.heap.size/\gn<w.heap.size/\w.cell? ⟨g,0,none⟩=some (.slice (some ⟨gn,off,none⟩) n cap)/\n<=cap/\cap<=maxLen/\
   1<=x/\x<=n/\CP (F0 w) row gn (off+(x.toNat-1)*13)/\w.cell? ⟨gn,off+(x.toNat-1)*13+11,none⟩=some (.int .i64 c)/\bC w gn (off+(x.toNat-1)*13+2) Bw:=by
 unfold ao at e;split at e
 .rename_i Fv x' J7;cases J7;split at e
  .rename_i W off n l hc;split at e
   .rename_i cs hcs;split at e
    .rename_i hx;split at e
     .rename_i A z G v t s q p o k fC c Ğ hrow;split at e
      .rename_i IP;simp only[Jc,AO,Mb] at IP;obtain⟨s0,R,Q,P,O,N,M,L,K,C,B⟩:=IP;obtain⟨_,y,hy,gn,cap,ě,rfl,J,⟨Y,I⟩,V⟩:=hi.RZ hc hm (j:=0) rfl;have ģ:gn<w.heap.size:=by obtain⟨⟨us,e,fr,p1,p2⟩,_⟩:=hi.sz gn _ V;exact(AN.1 p1).1
       have get:∀(j:Nat) (a:Aa),j<13->[A,z,G,v,t,s,q,p,o,k,fC,.int .i64 c,Ğ][j]?=some a->cs[off+(x.toNat-1)*13+j]?=some a:=λj a hj ha=>by rw[<-hrow,CL hj,Cr] at ha;exact ha
       have key:∀(j:Nat) (a:Aa),j<13->[A,z,G,v,t,s,q,p,o,k,fC,.int .i64 c,Ğ][j]?=some a->a.still=true->∃u,(F0 w).HW gn (off+(x.toNat-1)*13+j)=some u/\BI (F0 w) a u:=λj a hj ha hs=>by obtain⟨u,hu,ho,hr⟩:=Nc hi hcs ě (get j a hj ha);exact⟨u,Tk hu ho,BI.mem hi _ _ hs hr⟩
       have sB:w.cell? ⟨gn,off+(x.toNat-1)*13+11,none⟩=some (.int .i64 c):=by obtain⟨u,hu,_,hr⟩:=Nc hi hcs ě (get 11 _ Ac rfl);cases hr;exact hu
       obtain⟨X,Ql,rK,LQ⟩:=Nc hi hcs ě (get 2 G Ac rfl);have mk:∀(D:Aa),(∃u,(F0 w).HW gn (off+(x.toNat-1)*13+2)=some u/\BI (F0 w) D u)->CP (F0 w) [A,z,D,v,t,s,q,p,o,k,fC,.int .i64 c,Ğ] gn (off+(x.toNat-1)*13):=λD h2=>⟨key 0 A Ac rfl s0,key 1 z Ac rfl R,h2,key 3 v Ac rfl Q,key 4 t Ac rfl P,key 5 s Ac rfl O,key 6 q Ac rfl N,key 7 p Ac rfl M,key 8 o Ac rfl L,key 9 k Ac rfl K,key 10 fC Ac rfl C,key 11 _ Ac rfl rfl,key 12 Ğ Ac rfl B,trivial⟩
       have hg:=Du hy;split at e;.cases e;cases LQ;exact⟨rfl,gn,off,n,cap,_,c,[],rfl,hg,ģ,hy,J,I,hx.1,hx.2.1,mk _ ⟨_,Tk Ql rK,rfl⟩,sB,_,Ql,.inl ⟨rfl,rfl⟩⟩
       .rename_i P2 f m;split at e
        .rename_i ks ym;split at e
         .rename_i hk;cases e;obtain⟨i,b,E,rfl,H,⟨r2,T⟩,S⟩:=LQ;obtain⟨d,t2⟩:=gV hi ym E m f Ac hk.2;have F:i<w.heap.size:=by obtain⟨⟨us,e,fr,p1,p2⟩,_⟩:=hi.sz i _ S;exact(AN.1 p1).1
          refine⟨rfl,gn,off,n,cap,_,c,Cs ks 1 f m,rfl,hg,ģ,hy,J,I,hx.1,hx.2.1,mk _ ⟨_,Tk Ql rK,⟨i,f,none⟩,b,by rw[d],by rw[d];exact H,.inl rfl,t2⟩,sB,_,Ql,.inr ⟨i,f,b,by rw[d],by rw[d];exact H,T,F,t2⟩⟩
         .cases e
        .cases e
       .cases e
      .cases e
     .cases e
    .cases e
   .cases e
  .cases e
 .cases e
def zk{n:Nat}(hs:ER cx (IT.run (B7 cx) n))(hi:Hi U h w)(hg:∀g cs,cx.Gy g=some cs->CP U cs g 0){row:List Aa}{s:Ak}{h1:Ah}(e:IT.run (B7 cx) n (B7 cx 186 [.BW row]) []=some (.ret,[.str s],h1))
  {W:World} (hb:Below w.heap.size w W) {gn o:Nat} (hr:CP (F0 w) row gn o):
  Calls Proofs.Tryz.prog 186 #[.pointer (some ⟨gn,o,none⟩)] W λe W'=>e= .returned (.string ⟨⟨s⟩⟩)/\Below W.heap.size W W':=by
 refine((hs.2 186 _ _ _ _ e).2 (F0 W) W #[.pointer (some ⟨gn,o,none⟩)] (l_ W) (λg cs ē=>CP.mono (gS hb) cs g 0 (CP.mem hi cs g 0 (Ul cs (hs.1.1 g cs ē)) (hg g cs ē)))
  ⟨_,_,rfl,⟨gn,o,rfl,CP.mono (gS hb) row gn o hr⟩,rfl⟩).mono λe W' he=>?_
 cases e with
 |returned v=>obtain⟨a,_,ha,hv,_⟩:=he;cases hv;exact⟨rfl,ha.os,ha.tape,ha.output,ha.size,λk hk=>(ha.NF k hk (λid=>by simp[F0])).1⟩
 |_=>exact he.elim
end
def zl{w:World}{b o:Nat}{Bw:List (List Aa)}(h:bC w b o Bw):∃p cap,w.cell? ⟨b,o,none⟩=some (.slice p Bw.length cap)/\Bw.length<=cap/\cap<=maxLen/\
  ∀(i:Nat) (y:Int),Bw[i]?=some [.int .i64 y]->∃a c,p=some ⟨a,c,none⟩/\a<w.heap.size/\w.cell? ⟨a,c+i,none⟩=some (.int .i64 y):=by
 obtain⟨v,hv,⟨rfl,rfl⟩|⟨a,c,cap,rfl,h1,h2,e,d⟩⟩:=h;.exact⟨none,0,hv,Ab _,AI,λi y hi=>by simp at hi⟩
 .refine⟨_,cap,hv,h1,h2,λi y hi=>⟨a,c,rfl,e,?_⟩⟩;obtain⟨_,⟨u,hu,hr⟩,_⟩:=EG.get d hi;cases hr;have:=hu;simp only[F0,Qq] at this;simpa using this.1
def gW(l:List UInt8):Lib.strCells ⟨l.toArray⟩=Lib.byteCells l:=by simp[Lib.strCells,Lib.byteCells]
def bD(l:List UInt8):Lib.strCells ⟨⟨l⟩⟩=Lib.byteCells l:=by simp[Lib.strCells,Lib.byteCells]
def nA(i n:Nat)(h:i<n)(hn:n<=9223372036854775807):wrap64 ((i:Int)+1)=((i+1:Nat):Int):=by rw[Go.IntWalk.wrap64_in _ ⟨Ac,Ac⟩];omega
def Zi(d:Nat)(h:d<=1000):wrap64 ((d:Int)+1)=((d+1:Nat):Int):=by rw[Go.IntWalk.wrap64_in _ ⟨Ac,Ac⟩];omega
abbrev gd(g:Nat)(w0:World)(x:Int)(d:Nat)(DD Q1:Ak):Prop:=
 ∀(B b:Nat) (W:World),w0.heap.size<=B->B<=W.heap.size->Below w0.heap.size w0 W->Lib.IsBuilder 142 5 B b (Lib.byteCells DD) W->
  Calls Proofs.Tryz.prog 93 #[.pointer (some ⟨g,0,none⟩),.pointer (some ⟨b,0,none⟩),.int .i64 x,.int .i64 d] W λe W'=>(∃v,e= .returned v)/\Lib.IsBuilder 142 5 B b (Lib.byteCells Q1) W'/\Below B W W'
def ax{p:Prop}(h:p):Hid p:=h
def LS{w0 W':World}{k j:Nat}{v:Value}(hb:Below w0.heap.size w0 W')(h:w0.cell? ⟨k,j,none⟩=some v):W'.cell? ⟨k,j,none⟩=some v:=by rw[CI (hb.block k (Du h))];exact h
def nB:Code->Code
 | .seq _ c=>nB c
 | .block _ c=>c
 |c=>c
noncomputable def ml:Code:=match Proofs.Tryz.f93.body with
 |some c=>nB c
 |none=> .skip
def mn{w0 W W6:World}{g B b d a:Nat}{p:Option Addr}{Bw:List (List Aa)}(hB:w0.heap.size<=B)(h:B<=W.heap.size)(hb:Below w0.heap.size w0 W)(hd:d<=1000)
  (Ya:Bw.length<=a) (lL:a<=maxLen) (zi:∀(i:Nat) (y:Int),Bw[i]?=some [.int .i64 y]->∃l Y,p=some ⟨l,Y,none⟩/\l<w0.heap.size/\w0.cell? ⟨l,Y+i,none⟩=some (.int .i64 y))
  (f:Nat->Ak) (hf:∀i,i<Bw.length->∃y,Bw[i]?=some [.int .i64 y]/\gd g w0 y (d+1) (f i) (f (i+1))) (j:Below B W W6) (l6:Lib.IsBuilder 142 5 B b (Lib.byteCells (f 0)) W6)
  (z2 z4 z5 z6 z7 z8 z9 z10 V z12 U z14 T z16 S R Q z20 P z22 z23 z24 O z26 z27 N M L K J I H G z36 z37 F E D C A z x w u t z51 s z53 r q o n m:Value):
  ml.wpIn Fence.wide 5 Proofs.Tryz.prog (Exit.inBlock 0<|bodyPost Proofs.Tryz.prog Proofs.Tryz.f93 λe W'=>(∃v,e= .returned v)/\Lib.IsBuilder 142 5 B b (Lib.byteCells (f Bw.length)) W'/\Below B W W')
   {tmps:=#[.pointer (some ⟨g,0,none⟩),.pointer (some ⟨b,0,none⟩),z2,.int .i64 d,z4,z5,z6,z7,z8,z9,z10,V,z12,U,z14,T,z16,S,R,Q,z20,P,z22,z23,z24,O,z26,z27,N,M,L,K,J,I,H,G,z36,z37,F,E,D,C,A,z,x,w,.slice p Bw.length a,.int .i64 Bw.length,.int .i64 0,u,t,z51,s,z53,r,q,o,n,m],defers:=[]} W6:=by
 simp only[ml,nB,Proofs.Tryz.f93];gi_loopg [48] Bw.length (λk v wr=>∃i,i<=Bw.length/\k=Bw.length-i/\v= .int .i64 (i:Nat)/\Below B W wr/\Lib.IsBuilder 142 5 B b (Lib.byteCells (f i)) wr)
 case atStart=>exact⟨0,Bd _,rfl,rfl,j,l6⟩
 case round=>
  obtain⟨i,hi,rfl,rfl,bbi,X⟩:=hrel;by_cases hlt:i<Bw.length
  .obtain⟨y,hy,Ĥ⟩:=hf i hlt;obtain⟨l,Y,rfl,hgk,Jo⟩:=zi i y hy;have c:Below w0.heap.size w0 wr:=hb.trans (bbi.mono hB);have ci:=LS c Jo;have aQu:(i:Int)<(Bw.length:Int):=by exact_mod_cast hlt
   have Z:=nA i _ hlt (Bp Ya lL);have hwd:=Zi d hd;have Vi:=Ĥ B b _ hB (Bp h bbi.size) c X;clear Ĥ hf zi Ya lL c X l6 j Jo hy hgk hB h hb;rw[show((d+1:Nat):Int)=(d:Int)+1 from rfl] at Vi;gi_wp2
   refine⟨trivial,(callsIn_wide.2 Vi).mono ?_⟩;rintro e W7 ⟨⟨v,rfl⟩,l7,b7⟩;gi_wp2
   gi_roundg (Bw.length-(i+1))
   case measure=>exact Nat.sub_lt_sub_left hlt (SQ i)
   case rel=>refine⟨i+1,hlt,rfl,?_,bbi.trans b7,l7⟩;first|rfl|exact B5 (Value.int .i64) Z
  .obtain rfl:i=Bw.length:=Nat.le_antisymm hi (Nat.le_of_not_lt hlt);gi_wp2
   go_end0
   exact⟨⟨_,rfl⟩,X,bbi⟩
def Ž{w0:World}{g gn off n cap:Nat}{c x:Int}{Bw:List (List Aa)}(ū:g<w0.heap.size)(ģ:gn<w0.heap.size)(hc:w0.cell? ⟨g,0,none⟩=some (.slice (some ⟨gn,off,none⟩) n cap))(O4:n<=cap)(hm:cap<=maxLen)
  (Tl:1<=x) (Yq:x<=n) (bE:w0.cell? ⟨gn,off+(x.toNat-1)*13+11,none⟩=some (.int .i64 c)) (hk:bC w0 gn (off+(x.toNat-1)*13+2) Bw)
  {d:Nat} (hd:d<=1000) {DD h s:Ak}
  (sC:∀W,Below w0.heap.size w0 W->Calls Proofs.Tryz.prog 186 #[.pointer (some ⟨gn,off+(x.toNat-1)*13,none⟩)] W λe W'=>e= .returned (.string ⟨⟨s⟩⟩)/\Below W.heap.size W W')
  (hlen:(DD++List.replicate (2*d) 32++s++[10]).length<=AK)
  (sD:(c=0/\h=DD++List.replicate (2*d) 32++s++[10])\/(c≠0/\gd g w0 c (d+1) (DD++List.replicate (2*d) 32++s++[10]) h))
  (f:Nat->Ak) (xc:f 0=h) (hf:∀i,i<Bw.length->∃y,Bw[i]?=some [.int .i64 y]/\gd g w0 y (d+1) (f i) (f (i+1))):
  gd g w0 x d DD (f Bw.length):=by
 intro B b W hB a hb F;obtain⟨p,O,xb,Ya,lL,zi⟩:=zl hk;have Ĕ:AK=140737488355328:=rfl;simp only[Ap,Fx,AJ,Br] at hlen;have N:2*d<=140737488355328:=by rw[Ĕ] at hlen;omega
 have M:(Lib.byteCells DD).length+(⟨(List.replicate (2*d) (32:UInt8)).toArray⟩:ByteArray).size<=140737488355328:=by rw[Ĕ] at hlen;rw[byteCells_length];simp only[ByteArray.size,B3,Fx];omega
 have L:(Lib.byteCells (DD++List.replicate (2*d) 32)).length+(⟨⟨s⟩⟩:ByteArray).size<=140737488355328:=by rw[Ĕ] at hlen;rw[byteCells_length];simp only[ByteArray.size,Ap,Fx];show _+s.length<=_;omega
 have K:(Lib.byteCells (DD++List.replicate (2*d) 32++s)).length+1<=140737488355328:=by rw[Ĕ] at hlen;rw[byteCells_length];simp only[Ap,Fx];omega
 have J:d<=9223372036854775807:=Bp hd AI;clear hlen Ĕ;have Hline:=ax sC;have m:=ax sD;have R:=ax hf;have u:=ax zi;have z:=ax Ya;have w:=ax lL;clear sC sD hf zi hk Ya lL;refine(callsIn_wide (n:=5)).1 ?_;refine callsIn_of_wp Proofs.Tryz.func93 rfl trivial ?_ rfl;simp only[Proofs.Tryz.ntmps93,B3,AJ,Br,Nat.reduceAdd,Nat.reduceSub,J4,J5,Mc,KB,BO,CC];gi_wp2
 refine⟨trivial,(callsIn_wide.2 (aE6 g gn off n cap x _ (LS hb hc) Tl Yq O4 hm)).mono ?_⟩;rintro e w' ⟨rfl,rfl⟩;gi_wp2
 refine⟨trivial,(callsIn_wide.2 (Proofs.Tryz.strings_Repeat ⟨#[32,32]⟩ d _ J N)).mono ?_⟩;rintro e W1 ⟨rfl,b1⟩;have S0:Below w0.heap.size w0 W1:=hb.trans (b1.mono hb.size);have t:Below B W W1:=b1.mono a;have l1:=Ox F b1;have hr:(Lib.repeatL (⟨#[32,32]⟩:ByteArray).data.toList d)=List.replicate (2*d) 32:=m8 d;rw[hr];gi_wp2
 refine⟨trivial,(callsIn_wide.2 (Proofs.Tryz.Builder_WriteString B b (Lib.byteCells DD) _ _ l1 M (Bp a t.size))).mono ?_⟩;rintro e V ⟨rfl,D,b2⟩;rw[gW,<-Kn] at D;have r:=t.trans b2;have Qm:Below w0.heap.size w0 V:=S0.trans (b2.mono hB);gi_wp2
 refine⟨trivial,(callsIn_wide.2 (Hline.out _ Qm)).mono ?_⟩;rintro e W3 ⟨rfl,b3⟩;have ž:Below w0.heap.size w0 W3:=Qm.trans (b3.mono Qm.size);have q:Below B W W3:=r.trans (b3.mono (Bp a r.size));have l3:=Ox (.inr D) b3;gi_wp2
 refine⟨trivial,(callsIn_wide.2 (Proofs.Tryz.Builder_WriteString B b _ _ _ l3 L (Bp a q.size))).mono ?_⟩;rintro e U ⟨rfl,l4,b4⟩;rw[bD,<-Kn] at l4;have o:=q.trans b4;have H:Below w0.heap.size w0 U:=ž.trans (b4.mono hB);gi_wp2
 refine⟨trivial,(callsIn_wide.2 (Proofs.Tryz.Builder_WriteByte B b _ 10 _ (.inr l4) K (Bp a o.size))).mono ?_⟩;rintro e Q ⟨rfl,A,b5⟩;have I:Lib.byteCells (DD++List.replicate (2*d) 32++s)++[Value.int .u8 10]=Lib.byteCells (DD++List.replicate (2*d) 32++s++[10]):=by rw[Kn (DD++List.replicate (2*d) 32++s) [10]];rfl
 replace A:=I▸A;have l:=o.trans b5;have j:Below w0.heap.size w0 Q:=H.trans (b5.mono hB);have X:=LS j bE;clear O4 hm Tl Yq hc N M L K J l1 l3 l4 D;rcases m.out with⟨rfl,rfl⟩|⟨E,gX⟩
 .have k:=l;have l6:Lib.IsBuilder 142 5 B b (Lib.byteCells (f 0)) Q:=by rw[xc];exact .inr A
  have T:=LS j xb;gi_wp2
  exact mn hB a hb hd z.out w.out u.out f R.out k l6 _ _ _ _ _ _ _ _ _ _ _ _ _ _ _ _ _ _ _ _ _ _ _ _ _ _ _ _ _ _ _ _ _ _ _ _ _ _ _ _ _ _ _ _ _ _ _ _ _ _ _ _ _
 .have hne:(c != 0)=true:=by simp[E]
  have S:=Zi d hd;have aFc:=gX B b _ hB (Bp a l.size) j (.inr A);rw[show((d+1:Nat):Int)=(d:Int)+1 from rfl] at aFc;gi_wp2
  refine⟨trivial,(callsIn_wide.2 aFc).mono ?_⟩;rintro e P ⟨⟨v,rfl⟩,C,b6⟩;have k:=l.trans b6;have G:Below w0.heap.size w0 P:=j.trans (b6.mono hB);have l6:Lib.IsBuilder 142 5 B b (Lib.byteCells (f 0)) P:=by rw[xc];exact C
  have T:=LS G xb;gi_wp2
  exact mn hB a hb hd z.out w.out u.out f R.out k l6 _ _ _ _ _ _ _ _ _ _ _ _ _ _ _ _ _ _ _ _ _ _ _ _ _ _ _ _ _ _ _ _ _ _ _ _ _ _ _ _ _ _ _ _ _ _ _ _ _ _ _ _ _
section
variable{U:Gh}{h:Ah}{w0:World}
abbrev ſ(fuel d:Nat)(a:Aa):List Aa->(Ak->IT)->Ak->IT:=λP2 K DD=>match P2 with
 |[.int .i64 y]=>Hy 186 a fuel y (d+1) DD K
 |_=> .fail
def gY{run:IT->Ah->Option Jy}{g fuel d:Nat}{a:Aa}(ih:∀(x:Int) (DD:Ak) (k:Ak->IT) (res:Jy),IT.step (B7 cx) run (Hy 186 a fuel x (d+1) DD k) h=some res->∃Q1,IT.step (B7 cx) run (k Q1) h=some res/\gd g w0 x (d+1) DD Q1):
  ∀(Bw:List (List Aa)) (DD:Ak) (k:Ak->IT) (res:Jy),IT.step (B7 cx) run (Bw.foldr (ſ fuel d a) k DD) h=some res->
   ∃f:Nat->Ak,f 0=DD/\IT.step (B7 cx) run (k (f Bw.length)) h=some res/\∀i,i<Bw.length->∃y,Bw[i]?=some [.int .i64 y]/\gd g w0 y (d+1) (f i) (f (i+1))
 |[],DD,k,res,e=>⟨λ_=>DD,rfl,e,λi hi=>by simp at hi⟩
 |P2::Bw,DD,k,res,e=>by
  simp only[List.foldr_cons] at e;unfold ſ at e;split at e
  .rename_i y;obtain⟨b,j,l⟩:=ih _ _ _ _ e;obtain⟨f,f0,f1,f2⟩:=gY ih Bw b k res j;refine⟨λ|0=>DD|i+1=>f i,rfl,f1,λi hi=>?_⟩;cases i with
   |zero=>
    have hc:gd g w0 y (d+1) DD (f 0):=by rw[f0];exact l
    exact⟨y,rfl,hc⟩
   |succ i=>obtain⟨c,p,q⟩:=f2 i (by simpa using hi);exact⟨c,by simpa using p,q⟩
  .cases e
def mo{run:IT->Ah->Option Jy}{a:Aa}{x:Int}{d:Nat}{DD:Ak}{k:Ak->IT}{res:Jy}(fuel:Nat)(e:IT.step (B7 cx) run (Hy 186 a fuel x d DD k) h=some res):∃id,a= .ptr (some (id,0)):=by
 cases fuel with
 |zero=>simp[Hy,IT.step] at e
 |succ fuel=>
  simp only[Hy,IT.step,DC] at e;cases e0:ao h [a,.int .i64 x] with
  |none=>simp[e0] at e
  |some b=>
   unfold ao at e0;split at e0;.rename_i id x' J7;cases J7;exact⟨id,rfl⟩
   .cases e0
def gZ{n:Nat}(hs:ER cx (IT.run (B7 cx) n))(hi:Hi U h w0)(hg:∀g cs,cx.Gy g=some cs->CP U cs g 0){id g:Nat}(hm:U.mu id=some g):
  ∀(fuel:Nat) (x:Int) (d:Nat) (DD:Ak) (k:Ak->IT) (res:Jy),d+fuel<=1000->IT.step (B7 cx) (IT.run (B7 cx) n) (Hy 186 (.ptr (some (id,0))) fuel x d DD k) h=some res->
   ∃Q1,IT.step (B7 cx) (IT.run (B7 cx) n) (k Q1) h=some res/\gd g w0 x d DD Q1/\∃p cap ln,w0.cell? ⟨g,0,none⟩=some (.slice p ln cap)/\1<=x/\x<=ln
 |0,x,d,DD,k,res,_,e=>by simp[Hy,IT.step] at e
 |fuel+1,x,d,DD,k,res,hd,e=>by
  simp only[Hy,IT.step,DC] at e;cases e0:ao h [.ptr (some (id,0)),.int .i64 x] with
  |none=>simp[e0] at e
  |some m=>
  obtain⟨h1,r⟩:=m;simp only[e0] at e;obtain⟨j,gn,off,t,cap,row,c,Bw,rfl,ū,ģ,hc,O4,zm,Tl,Yq,hrow,bE,hk⟩:=mj hi hm e0;simp only[IT.step] at e;rw[j] at e;clear j;cases i:IT.run (B7 cx) n (B7 cx 186 [.BW row]) [] with
  |none=>simp[i] at e
  |some R1=>
  simp only[i] at e;split at e
  .rename_i o ď J7;cases J7;split at e
   .split at e
    .rename_i s Im;split at e
     .rename_i hlen;have ih:∀(x:Int) (DD:Ak) (k:Ak->IT) (res:Jy),IT.step (B7 cx) (IT.run (B7 cx) n) (Hy 186 (.ptr (some (id,0))) fuel x (d+1) DD k) h=some res->∃Q1,IT.step (B7 cx) (IT.run (B7 cx) n) (k Q1) h=some res/\gd g w0 x (d+1) DD Q1:=λx DD k res e=>by obtain⟨Q1,p,q,_⟩:=gZ hs hi hg hm fuel x (d+1) DD k res Ac e;exact⟨Q1,p,q⟩
      have sC:∀W,Below w0.heap.size w0 W->Calls Proofs.Tryz.prog 186 #[.pointer (some ⟨gn,off+(x.toNat-1)*13,none⟩)] W λe W'=>e= .returned (.string ⟨⟨s⟩⟩)/\Below W.heap.size W W':=
       λW hb=>zk hs hi hg i hb hrow
      have ID:∀a,((c=0/\a=DD++List.replicate (2*d) 32++s++[10])\/(c≠0/\gd g w0 c (d+1) (DD++List.replicate (2*d) 32++s++[10]) a))->
        IT.step (B7 cx) (IT.run (B7 cx) n) (Bw.foldr (ſ fuel d (.ptr (some (id,0)))) k a) h=some res->∃Q1,IT.step (B7 cx) (IT.run (B7 cx) n) (k Q1) h=some res/\gd g w0 x d DD Q1/\∃p cap ln,w0.cell? ⟨g,0,none⟩=some (.slice p ln cap)/\1<=x/\x<=ln:=by
       intro a sD l;obtain⟨f,f0,f1,f2⟩:=gY ih Bw a k res l;exact⟨f Bw.length,f1,Ž ū ģ hc O4 zm Tl Yq bE hk Ac sC hlen sD f f0 f2,_,_,_,hc,Tl,Yq⟩
      split at e;.rename_i b;exact ID _ (.inl ⟨b,rfl⟩) e
      .rename_i b;obtain⟨a,p,q⟩:=ih _ _ _ _ e;exact ID a (.inr ⟨b,q⟩) p
     .cases e
    .cases e
   .cases e
  .cases e
end
def aAa{w0:World}{g ln cap:Nat}{p:Option Addr}{x:Int}{s:Ak}(ū:g<w0.heap.size)(hc:w0.cell? ⟨g,0,none⟩=some (.slice p ln cap))(Tl:1<=x)(Yq:x<=ln)(gX:gd g w0 x 0 [] s):
  Calls Proofs.Tryz.prog 34 #[.pointer (some ⟨g,0,none⟩),.int .i64 x] w0 λe w'=>e= .returned (.string ⟨⟨s⟩⟩)/\Below w0.heap.size w0 w':=by
 have b:decide (1<=x/\x<=ln)=true:=Al ⟨Tl,Yq⟩;have aJW:(w0.alloc (.cells #[.pointer none,.slice none 0 0] 142)).heap[w0.heap.size]?=some (.cells #[.pointer none,.slice none 0 0] 142 (0,0)):=World.alloc_heap_new w0 _;have S0:Below w0.heap.size w0 (w0.alloc (.cells #[.pointer none,.slice none 0 0] 142)):=(Below.refl _ w0).alloc (Ab _) _;have l1:Lib.IsBuilder 142 5 w0.heap.size w0.heap.size (Lib.byteCells []) (w0.alloc (.cells #[.pointer none,.slice none 0 0] 142)):=
  .inl ⟨Ab _,.slice none 0 0,aJW,World.ownsRow_nil _ _ _ _,by simp[Value.ownBlock]⟩
 have Vi:=gX w0.heap.size w0.heap.size _ (Ab _) Ax S0 l1;rw[show((0:Nat):Int)=0 from rfl] at Vi;refine(callsIn_wide (n:=5)).1 ?_;refine callsIn_of_wp Proofs.Tryz.func34 rfl trivial ?_ rfl;simp only[Proofs.Tryz.ntmps34,B3,AJ,Br,Nat.reduceAdd,Nat.reduceSub,J4,J5,Mc,KB,BO,CC];gi_wp2
 refine⟨trivial,(callsIn_wide.2 (Zh g _ ln cap x _ hc)).mono ?_⟩;rintro e w' ⟨rfl,rfl⟩;rw[b];gi_wp2
 refine⟨trivial,(callsIn_wide.2 Vi).mono ?_⟩;rintro e c ⟨⟨v,rfl⟩,a,b2⟩;gi_wp2
 refine⟨trivial,(callsIn_wide.2 (Proofs.Tryz.Builder_String_any w0.heap.size w0.heap.size s _ a (by have:=b2.size;have:=S0.size;omega))).mono ?_⟩;rintro e W3 ⟨rfl,b3⟩;gi_wp2
 refine bodyPost_ret (results_tmp rfl _ _ _) rfl ?_;exact⟨rfl,(S0.trans b2).trans b3⟩
def aAb{h:Ah}(n:Nat)(hs:ER cx (IT.run (B7 cx) n))(args:List Aa)(r:Aa)(h':Ah)(AG:IT.step (B7 cx) (IT.run (B7 cx) n) (rV 186 args) h=some (.ret,[r],h')):
  (∃fn c,cx.P.funcs[Ec 34]?=some fn/\(fn.name== "runtime.NumGoroutine")=false/\fn.body=some c)/\
  ∀(U:Gh) (w:World) (cargs:Array Value),Hi U h w->(∀g cs,cx.Gy g=some cs->CP U cs g 0)->AV U args cargs.toList->
   Calls cx.P (Ec 34) cargs w λe w'=>match e with
    | .returned v=>∃d,Hi d h' w'/\LB U w d w'/\BI d r v/\(cx.I9 34=true->∃s c,IF d w.heap.size w' s c v r)
    |_=>False:=by
 refine⟨⟨_,_,Proofs.Tryz.func34,rfl,rfl⟩,λU w cargs hi hg ha=>?_⟩;have aJX:∃id x,args=[.ptr (some (id,0)),.int .i64 x]:=by
  unfold rV at AG;split at AG;.rename_i a x;obtain⟨id,rfl⟩:=mo _ AG;exact⟨id,x,rfl⟩
  .cases AG
 obtain⟨id,x,rfl⟩:=aJX;obtain⟨v0,us,xe,⟨g,hm,rfl⟩,i,Ţ,rfl,rfl,hnil⟩:=ha;cases hnil;have b:cargs=#[.pointer (some ⟨g,0,none⟩),.int .i64 x]:=by apply Gf;simpa using xe
 subst b;simp only[rV] at AG;obtain⟨DD,f,gX,p,cap,ln,hc,Tl,Yq⟩:=gZ hs hi hg hm 100 x 0 [] _ _ Ac AG;cases f;refine(aAa (Du hc) hc Tl Yq gX).mono λe w' he=>?_;obtain⟨rfl,hb⟩:=he;obtain⟨T9,RT⟩:=hi.KU hb;exact⟨U,T9,RT,rfl,λe=>by cases e⟩
end Go.Am
end
