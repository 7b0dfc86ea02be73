/- Lemmas -/
import Derived.Test.YtdbnpiefklklhaaGreatDoorH15
import Derived.RangeFuncBox
import Derived.OwnWalkIn
import Derived.TacticsInMore
import Derived.LoopNIn
import Derived.Sort.LoopGhostIn
set_option linter.all false
set_option maxHeartbeats 0
set_option maxRecDepth 100000
section
namespace Go.Am
open Go Go.RowKit Go.Shelf
def Zh(ga:Nat)(p:Option Addr)(n cap:Nat)(x:Int)(w:World)(hc:w.cell? ⟨ga,0,none⟩=some (.slice p n cap)):
  Calls Proofs.Tryz.prog 140 #[.pointer (some ⟨ga,0,none⟩),.int .i64 x] w λe w'=>e= .returned (.bool (decide (1<=x/\x<=n)))/\w=w':=by
 go_enter Proofs.Tryz.func140,Proofs.Tryz.ntmps140
 go_wp2
 all_goals refine bodyPost_ret (results_tmp rfl _ _ _) rfl ?_
 all_goals simp_all
 all_goals omega
def aE4(ga gn off n cap:Nat)(x:Int)(w:World)(hc:w.cell? ⟨ga,0,none⟩=some (.slice (some ⟨gn,off,none⟩) n cap))(h1:1<=x)(h2:x<=n)(OZ:n<=cap)(hm:cap<=maxLen):
  Calls Proofs.Tryz.prog 144 #[.pointer (some ⟨ga,0,none⟩),.int .i64 x] w λe w'=>e= .returned (.pointer (some ⟨gn,off+(x.toNat-1)*13,none⟩))/\w=w':=by
 have hb:maxLen<=9223372036854775807:=AM;have hw:wrap64 (x-1)=x-1:=Go.IntWalk.wrap64_in _ ⟨Ab,Ab⟩;go_enter Proofs.Tryz.func144,Proofs.Tryz.ntmps144
 go_wp2
 all_goals refine bodyPost_ret (results_tmp rfl _ _ _) rfl ?_
 all_goals exact⟨rfl,rfl⟩
def aE5(ga:Nat)(x:Int)(w:World):
  Calls Proofs.Tryz.prog 243 #[.pointer (some ⟨ga,0,none⟩),.int .i64 x,.bool true] w λe w'=>e= .returned (.func (.func 274) #[] #[.pointer (some ⟨w.heap.size+1,0,none⟩),.pointer (some ⟨w.heap.size,0,none⟩),.pointer (some ⟨w.heap.size+1+1,0,none⟩)])/\
   w'=((w.alloc (.cells #[.pointer (some ⟨ga,0,none⟩)] 69)).alloc (.cells #[.int .i64 x] 3)).alloc (.cells #[.bool true] 4):=by
 have a:∀(fn:Fn) (first cap:Array Value) (w:World),(Instr.makeFunc fn first cap).run Proofs.Tryz.prog w= .ok (.func fn first cap) w:=λ_ _ _ _=>rfl;go_enter Proofs.Tryz.func243,Proofs.Tryz.ntmps243
 go_wp2
 go_ret
 exact⟨rfl,rfl⟩
def nF{cs:List Aa}{off n:Nat}{up:Int}{k:Nat}{b:Bool}(h:Lg cs off n up k 0=some b):b=false:=by cases k<;>simp[Lg] at h<;>exact h
def nG{cs:List Aa}{off n:Nat}{up x:Int}{k:Nat}{b:Bool}(h:Lg cs off n up k x=some b)(hx:x≠0):∃k',k=k'+1/\
  ((x=up/\b=true)\/(x≠up/\1<=x/\x<=n/\∃p q,Gq cs off x 1=some p/\Gq cs off x 12=some q/\Lg cs off n up k' (if p=0 then q else p)=some b)):=by
 cases k with
 |zero=>
  rw[Lg] at h;. cases h
  .exact λe=>hx e
 |succ k=>
  refine⟨k,rfl,?_⟩;rw[Lg] at h
  .split at h;.rename_i e;cases h;exact .inl ⟨e,rfl⟩
   .rename_i e;split at h
    .rename_i hr;split at h;.rename_i p q c a;exact .inr ⟨e,hr.1,hr.2,p,q,c,a,h⟩
     .cases h
    .cases h
  .exact λe=>hx e
structure gR(Ba Bo ga gn off n cap:Nat)(cs:List Aa)(W:World):Prop where
 a:W.cell? ⟨Ba,0,none⟩=some (.pointer (some ⟨ga,0,none⟩))
 o:W.cell? ⟨Bo,0,none⟩=some (.bool true)
 c:W.cell? ⟨ga,0,none⟩=some (.slice (some ⟨gn,off,none⟩) n cap)
 x:∀(h:Int) (k:Nat) (v:Int),1<=h->h<=n->(k=1\/k=12)->Gq cs off h k=some v->W.cell? ⟨gn,off+(h.toNat-1)*13+k,none⟩=some (.int .i64 v)
def gR.Nw{Ba Bo ga gn off n cap:Nat}{cs:List Aa}{A B:World}(h:gR Ba Bo ga gn off n cap cs A)(hk:∀b,b=Ba\/b=Bo\/b=ga\/b=gn->B.heap[b]?=A.heap[b]?):gR Ba Bo ga gn off n cap cs B:=
 ⟨by rw[CF (hk _ Ax)];exact h.a,by rw[CF (hk _ Ax)];exact h.o,by rw[CF (hk _ Ax)];exact h.c,
  λx k v h1 h2 e d=>by rw[CF (hk _ Ax)];exact h.x x k v h1 h2 e d⟩
def sH{Ba Bo ga gn off n cap a:Nat}{cs:List Aa}{A:World}{u:Value}{J:World->Prop}(c:∀A B row,J A->A.grownBy B row->(∀r,row=some r->r=a)->J B)
  (hd:∀b,b=Ba\/b=Bo\/b=ga\/b=gn->b≠a) (hs:gR Ba Bo ga gn off n cap cs A) (hc:A.cell? ⟨a,0,none⟩=some u) (hf:A.frozen? ⟨a,0,none⟩=false) (hj:J A) (v:Value):
  gR Ba Bo ga gn off n cap cs (A.setCell ⟨a,0,none⟩ v)/\(A.setCell ⟨a,0,none⟩ v).cell? ⟨a,0,none⟩=some v/\(A.setCell ⟨a,0,none⟩ v).frozen? ⟨a,0,none⟩=false/\J (A.setCell ⟨a,0,none⟩ v):=
 ⟨hs.Nw λb hb=>Below.heap_setCell _ _ _ b (hd b hb),World.cell?_setCell_same _ _ _ hc,by rw[World.frozen?_setCell];exact hf,c _ _ _ hj (grownBy_setCell' A a v) λr e=>by cases e;rfl⟩
def aE6(m l d Ba Bo n₁ ga gn off n cap:Nat)(cs:List Aa)(up:Int)(J D:World->Prop)
  (z:∀A B row,J A->A.grownBy B row->(∀r,row=some r->r=d)->J B)
  (K:∀x W,J W->YieldAt Fence.wide (m-1) Proofs.Tryz.prog l #[.int .i64 x] W λe W'=>(e= .returned (.bool true)/\J W'/\Below n₁ W W'/\x≠up)\/(e= .returned (.bool false)/\D W'/\x=up))
  (hd:∀b,b=Ba\/b=Bo\/b=ga\/b=gn->b<n₁/\b≠d) (h:d<n₁) (OZ:n<=cap) (hm:cap<=maxLen)
  (W:World) (i:Int) (hs:gR Ba Bo ga gn off n cap cs W) (s:W.cell? ⟨d,0,none⟩=some (.int .i64 i)) (hf:W.frozen? ⟨d,0,none⟩=false)
  (fuel:Nat) (b:Bool) (hcl:Lg cs off n up fuel i=some b) (h0:J W):
  CallsIn Fence.wide m Proofs.Tryz.prog 274 #[.func (.yield l) #[] #[],.pointer (some ⟨d,0,none⟩),.pointer (some ⟨Ba,0,none⟩),.pointer (some ⟨Bo,0,none⟩)] W λe W'=>(∃v,e= .returned v)/\((b=false/\J W')\/(b=true/\D W')):=by
 refine callsIn_of_wp Proofs.Tryz.func274 rfl trivial ?_ rfl;simp only[Proofs.Tryz.ntmps274,BZ,AJ,Bt,Nat.reduceAdd,Nat.reduceSub,JR,JS,Mc,Kq,BT,CJ];gi_wp2
 gi_loopg [] fuel (λk wr=>∃x,Lg cs off n up k x=some b/\gR Ba Bo ga gn off n cap cs wr/\wr.cell? ⟨d,0,none⟩=some (.int .i64 x)/\wr.frozen? ⟨d,0,none⟩=false/\J wr)
 case atStart=>exact⟨i,hcl,hs,s,hf,h0⟩
 case round=>
  obtain⟨x,hcl,hs,s,hf,hj⟩:=hrel;by_cases hx:x=0
  .subst hx;have:=nF hcl;subst this;gi_wp2
   refine⟨nofun,?_⟩;gi_wp2
   go_end0
   exact⟨⟨_,rfl⟩,hj⟩
  .obtain⟨k',rfl,IB⟩:=nG hcl hx;have hne:(x != 0)=true:=by simp[hx]
   obtain⟨fn,tmps,assign,body,hy,hR⟩:=K x wr hj;gi_wp2
   refine⟨nofun,?_⟩;refine hR.mono ?_;rintro e W3 (⟨rfl,u,lT,ğ⟩|⟨rfl,g,ğ⟩)
   .rcases IB with⟨rfl,_⟩|⟨_,h1,h2,p,q,M,L,Ÿ⟩
    .exact absurd rfl ğ
    have f:=hs.Nw λb hb=>lT.block b (hd b hb).1;have j:W3.cell? ⟨d,0,none⟩=some (.int .i64 x):=by rw[CF (lT.block d h)];exact s
    have t:W3.frozen? ⟨d,0,none⟩=false:=by rw[<-hf];simp only[World.frozen?,lT.block d h]
    have hp:=f.x x 1 p h1 h2 (.inl rfl) M;have hq:=f.x x 12 q h1 h2 (.inr rfl) L;have O:=f.a;have N:=f.o;have G:¬Bo=d:=(hd Bo Ax).2;have F:¬gn=d:=(hd gn Ax).2;gi_wp2
    refine⟨trivial,nofun,(callsIn_wide.2 (aE4 ga gn off n cap x _ f.c h1 h2 OZ hm)).mono ?_⟩;rintro e w' ⟨rfl,rfl⟩;obtain⟨w,C,z4,y⟩:=sH z (λb hb=>(hd b hb).2) f j t u (.int .i64 p);by_cases ś:p=0
    .subst ś;obtain⟨E,P,z5,H⟩:=sH z (λb hb=>(hd b hb).2) w C z4 y (.int .i64 q);gi_wp2
     gi_roundg k'
     case measure=>omega
     case rel=>exact⟨q,Ÿ,E,P,z5,H⟩
    .have I:(p==0)=false:=by simp[ś]
     gi_wp2
     gi_roundg k'
     case measure=>omega
     case rel=>exact⟨p,by rw[Ad ś] at Ÿ;exact Ÿ,w,C,z4,y⟩
   .rcases IB with⟨_,rfl⟩|⟨aJF,_⟩
    .gi_wp2
     go_end0
     exact⟨⟨_,rfl⟩,g⟩
    .exact absurd ğ aJF
def Ź(n₁:Nat)(up:Int)(I a:World->Prop)(x:Int)(W:World):Exit->Act->World->Prop
 | .normal,_,W'=>KeepsOthers W W'/\Below n₁ W W'/\I W'/\x≠up
 | .ret,_,W'=>KeepsOthers W W'/\a W'/\x=up
 | .exit _,_,_=>False
 | .goto _,_,_=>False
 | .panic _,_,_=>False
 | .outgrown,_,_=>False
def bB{P:Program}{n gf:Nat}{lb:Array Value}{g:Operand}{ps:Array Tmp}{assign body:Code}{Q:Exit->Act->World->Prop}{a:Act}{w:World}(h:Nat)(b:Bool)(up:Int)
  (hg:a.eval g= .func (.func gf) #[] lb) (u:∀args w,(callFunc gf args).run P w= .ok (.enter gf args) w) (s:h<w.heap.size)
  (ź:∀(l:Nat) (J o:World->Prop) (W:World),Below w.heap.size w W->(∀A B row,J A->A.grownBy B row->(∀r,row=some r->r=h)->J B)->
   (∀x W1,J W1->YieldAt Fence.wide (n-1 -1) P l #[.int .i64 x] W1 λe W'=>(e= .returned (.bool true)/\J W'/\Below w.heap.size W1 W'/\x≠up)\/(e= .returned (.bool false)/\o W'/\x=up))->J W->
   CallsIn Fence.wide (n-1) P gf (#[.func (.yield l) #[] #[]]++lb) W λe W'=>(∃v,e= .returned v)/\((b=false/\J W')\/(b=true/\o W')))
  (yt:ps.size=1) (I f:World->Prop) (hI:∀A B row,I A->A.grownBy B row->(∀r,row=some r->r=h\/w.heap.size<=r)->I B)
  (hIx:∀A B row,f A->A.grownBy B row->(∀r,row=some r->r=h\/w.heap.size<=r)->f B) (h0:I w) (a₁:Int->Act)
  (hassign:∀(l:Nat) (x:Int) (W:World) (K:Act->World->Prop),K (a₁ x) W->
   assign.wpIn (Fence.wide.inRound l) (n-1 -1) P (Exit.then K (λ_ _ _=>False)) {tmps:=(ps.zip #[.int .i64 x]).foldl (λt (p,v)=>t.setIfInBounds p v) a.tmps,defers:=[]} W)
  (Wm:∀(l:Nat) (x:Int) (W:World),I W->body.wpIn (Fence.wide.inRound l) (n-1 -1) P (Ź w.heap.size up I f x W) (a₁ x) W)
  (mj:∀(D:Nat) (W:World),b=false->I W->W.heap[D]?=some (.deferred (some []))->w.heap.size<=D->Q .normal {a with defers:={target:= .collected D,args:=#[]}::a.defers} W)
  (ml:∀(D:Nat) (W:World),b=true->f W->W.heap[D]?=some (.deferred (some []))->w.heap.size<=D->Code.ret.wpIn Fence.wide n P Q {a with defers:={target:= .collected D,args:=#[]}::a.defers} W):
  (Code.rangeFunc g ps assign body).wpIn Fence.wide n P Q a w:=by
 refine wpIn_rangeFunc ?_;intro fn j_;have hro:Fence.wide.round=none:=rfl;rw[hro];obtain⟨rec,UW⟩:∃rec:LoopState->Option Code->Loop,rec=λst q=>{state:=st,pending:=q,fn,tmps:=a.tmps,params:=ps,assign,body,defers:=w.heap.size}:=⟨_,rfl⟩;obtain⟨W1,c⟩:∃W1,(w.alloc (.deferred (some []))).alloc (.loop (rec .ready none))=W1:=⟨_,rfl⟩;have i:W1.heap[w.heap.size+1]?=some (.loop (rec .ready none)):=by rw[<-c];have:=World.alloc_heap_new (w.alloc (.deferred (some []))) (.loop (rec .ready none));rwa [World.size_alloc] at this
 have j:W1.heap[w.heap.size]?=some (.deferred (some [])):=by rw[<-c];exact(Below.heap_alloc _ _ _ Ax).trans (World.alloc_heap_new w _)
 have k:I W1:=by rw[<-c];exact hI _ _ none (hI _ _ none h0 (World.grownBy_alloc _ _ none) nofun) (World.grownBy_alloc _ _ none) nofun
 have S7:Below w.heap.size w W1:=by rw[<-c];exact(((Below.refl _ w).alloc (Ae _) _).alloc Ax _)
 refine⟨w.heap.size+1,[{target:= .collected w.heap.size,args:=#[]}],W1,{target:= .fn (.func gf) lb,args:=#[.func (.yield (w.heap.size+1)) #[] #[]]},W1,gf,
  #[.func (.yield (w.heap.size+1)) #[] #[]]++lb,W1,?_,?_,?_,?_,nofun,?_⟩
 .rw[<-c,UW];exact run_enterLoop_outer _ _ _ _ _
 .simp only[resolve,hg];simp[go_sem]
 .intro f' lj;trivial
 .simp[invoke,go_sem,u]
 .refine(ź (w.heap.size+1)
   (λW=>I W/\W.heap[w.heap.size+1]?=some (.loop (rec .ready none))/\W.heap[w.heap.size]?=some (.deferred (some [])))
   (λW=>f W/\W.heap[w.heap.size+1]?=some (.loop (rec .done (some .ret)))/\W.heap[w.heap.size]?=some (.deferred (some [])))
   W1 S7
   (λA B row hs hg' hr=>⟨hI A B row hs.1 hg' (λr e=> .inl (hr r e)),(hg'.block _ (AL.1 hs.2.1).1 (λe=>by have:=hr _ e.symm;omega)).trans hs.2.1,
    (hg'.block _ (AL.1 hs.2.2).1 (λe=>by have:=hr _ e.symm;omega)).trans hs.2.2⟩)
   ?_ ⟨k,i,j⟩).mono ?_
  .rintro x W ⟨hi,hl,hk⟩;have hlt:w.heap.size+1<W.heap.size:=(AL.1 hl).1;have hy:=run_yield (P:=P) (args:=#[.int .i64 x]) hl (by rw[UW];exact yt.symm);rw[UW] at hy;refine⟨fn,_,assign,body,hy,roundIn_of_wpIn j_ (hassign _ x W _ ⟨_,run_beginRound hl (by rw[UW]),?_⟩)⟩;have lS:(W.putObj (w.heap.size+1) (.loop {rec .ready none with state:= .busy})).heap[w.heap.size+1]?=some (.loop {rec .ready none with state:= .busy}):=World.putObj_heap_same hlt;have X5:(W.putObj (w.heap.size+1) (.loop {rec .ready none with state:= .busy})).heap[w.heap.size]?=some (.deferred (some [])):=(World.putObj_heap_other Ab).trans hk;have lf:Below w.heap.size W (W.putObj (w.heap.size+1) (.loop {rec .ready none with state:= .busy})):=belowK_b (Ae _) W _ _ _ Ab hl rfl rfl;refine wpIn_mono (Wm _ x _ (hI _ _ _ hi (grownBy_putObj' W _ _) (λr e=> .inr (by cases e;omega)))) ?_;have HM:∀(jump:Option Code) (W3:World),KeepsOthers (W.putObj (w.heap.size+1) (.loop {rec .ready none with state:= .busy})) W3->
     (Instr.endRound (w.heap.size+1) jump).run P W3= .ok (.bool jump.isNone) (W3.putObj (w.heap.size+1) (.loop (rec (if jump.isNone then .ready else .done) jump)))/\
     W3.heap[w.heap.size+1]?=some (.loop {rec .ready none with state:= .busy})/\
     (W3.putObj (w.heap.size+1) (.loop (rec (if jump.isNone then .ready else .done) jump))).heap[w.heap.size+1]?=some (.loop (rec (if jump.isNone then .ready else .done) jump))/\
     (W3.putObj (w.heap.size+1) (.loop (rec (if jump.isNone then .ready else .done) jump))).heap[w.heap.size]?=some (.deferred (some [])):=λjump W3 lT=>by
    have sG:=lT.same _ _ lS rfl;have:=run_endRound (P:=P) jump sG;rw[UW] at this⊢;exact⟨this,by rw[UW] at sG;exact sG,World.putObj_heap_same (AL.1 sG).1,(World.putObj_heap_other Ab).trans (lT.same _ _ X5 rfl)⟩
   rintro e a3 W3 hp;cases e with
   |normal=>obtain⟨lT,aJH,ų,hne⟩:=hp;obtain⟨hr,sG,d,zi⟩:=HM none W3 lT;exact⟨_,_,hr,.inl ⟨rfl,⟨hI _ _ _ ų (grownBy_putObj' W3 _ _) (λr e=> .inr (by cases e;omega)),d,zi⟩,(lf.trans aJH).trans (belowK_b (Ae _) W3 _ _ _ Ab sG rfl rfl),hne⟩⟩
   |ret=>obtain⟨lT,ų,he⟩:=hp;obtain⟨hr,sG,d,zi⟩:=HM (some .ret) W3 lT;exact⟨_,_,hr,.inr ⟨rfl,⟨hIx _ _ _ ų (grownBy_putObj' W3 _ _) (λr e=> .inr (by cases e;omega)),d,zi⟩,he⟩⟩
   |exit id=>exact hp.elim
   |goto t=>exact hp.elim
   |panic y=>exact hp.elim
   |outgrown=>exact hp.elim
  .rintro e m ⟨⟨v,rfl⟩,⟨hb,hi,hl,hk⟩|⟨hb,hi,hl,hk⟩⟩;.exact⟨none,_,by have:=run_endLoop (P:=P) hl (by rw[UW];simp);rw[UW] at this;exact this,mj _ _ hb (hI _ _ _ hi (grownBy_putObj' m _ _) (λr e=> .inr (by cases e;omega))) ((World.putObj_heap_other Ab).trans hk) (Ae _)⟩
   .exact⟨some .ret,_,by have:=run_endLoop (P:=P) hl (by rw[UW];simp);rw[UW] at this;exact this,ml _ _ hb (hIx _ _ _ hi (grownBy_putObj' m _ _) (λr e=> .inr (by cases e;omega))) ((World.putObj_heap_other Ab).trans hk) (Ae _)⟩
def CG{W:World}{k j:Nat}{v:Value}(o:Obj)(h:W.cell? ⟨k,j,none⟩=some v):(W.alloc o).cell? ⟨k,j,none⟩=some v:=by rw[World.cell?_alloc_past _ _ _ (Dn h)];exact h
def Kx{W:World}{k j:Nat}{v:Value}(o:Obj)(h:W.cell? ⟨k,j,none⟩=some v):(W.alloc o).frozen? ⟨k,j,none⟩=W.frozen? ⟨k,j,none⟩:=
 World.frozen?_alloc_past _ _ _ (Dn h)
def LA(W:World)(v:Value)(t:TypeId):(W.alloc (.cells #[v] t)).cell? ⟨W.heap.size,0,none⟩=some v/\(W.alloc (.cells #[v] t)).frozen? ⟨W.heap.size,0,none⟩=false:=by
 have h:(W.alloc (.cells #[v] t)).heap[W.heap.size]?=some (.cells #[v] t (0,0)):=World.alloc_heap_new W _;constructor;.simp only[World.cell?,h];rfl
 .simp only[World.frozen?,h];rfl
def Wv{A B:World}{row:Option Nat}{k:Nat}{v:Value}(h:A.cell? ⟨k,0,none⟩=some v)(hg:A.grownBy B row)(hr:∀r,row=some r->k≠r):
  B.cell? ⟨k,0,none⟩=some v/\B.frozen? ⟨k,0,none⟩=A.frozen? ⟨k,0,none⟩:=by
 have hb:B.heap[k]?=A.heap[k]?:=hg.block k (Dn h) (λe=>hr k e.symm rfl);exact⟨by rw[CF hb];exact h,by simp only[World.frozen?,hb]⟩
def Ż(ga gn off n cap:Nat)(cs:List Aa)(up x:Int)(w:World)(o:ga<w.heap.size)(Ġ:gn<w.heap.size)(OZ:n<=cap)(hm:cap<=maxLen)
  (hc:w.cell? ⟨ga,0,none⟩=some (.slice (some ⟨gn,off,none⟩) n cap))
  (hx:∀(h:Int) (k:Nat) (v:Int),1<=h->h<=n->(k=1\/k=12)->Gq cs off h k=some v->w.cell? ⟨gn,off+(h.toNat-1)*13+k,none⟩=some (.int .i64 v))
  (b:Bool) (hcl:Lg cs off n up (n+1) x=some b) (aN:1<=up) (Qz:up<=n) (Rw:1<=x) (Yl:x<=n):
  Calls Proofs.Tryz.prog 179 #[.pointer (some ⟨ga,0,none⟩),.int .i64 up,.int .i64 x] w λe w'=>e= .returned (.bool b)/\Below w.heap.size w w':=by
 refine(callsIn_wide (n:=5)).1 ?_;refine callsIn_of_wp_marks Proofs.Tryz.func179 rfl trivial ?_;simp only[Proofs.Tryz.ntmps179,BZ,AJ,Bt,Nat.reduceAdd,Nat.reduceSub,JR,JS,Mc,Kq,BT,CJ];have s:((w.alloc (.cells #[.int .i64 up] 3)).alloc (.cells #[.bool false] 4)).cell? ⟨ga,0,none⟩=some (.slice (some ⟨gn,off,none⟩) n cap):=by rw[World.cell?_alloc_past _ _ _ Ei,World.cell?_alloc_past _ _ _ o];exact hc
 have z:=LA w (.int .i64 up) 3;have d:=LA (w.alloc (.cells #[.int .i64 up] 3)) (.bool false) 4;have u:=LA ((w.alloc (.cells #[.int .i64 up] 3)).alloc (.cells #[.bool false] 4)) (.pointer (some ⟨ga,0,none⟩)) 69;have i:=LA (((w.alloc (.cells #[.int .i64 up] 3)).alloc (.cells #[.bool false] 4)).alloc (.cells #[.pointer (some ⟨ga,0,none⟩)] 69)) (.int .i64 x) 3;have t:=LA ((((w.alloc (.cells #[.int .i64 up] 3)).alloc (.cells #[.bool false] 4)).alloc (.cells #[.pointer (some ⟨ga,0,none⟩)] 69)).alloc (.cells #[.int .i64 x] 3)) (.bool true) 4;simp only[World.size_alloc] at d u i t;have H:decide (1<=up/\up<=n)=true:=Al ⟨aN,Qz⟩;have G:decide (1<=x/\x<=n)=true:=Al ⟨Rw,Yl⟩;gi_wp2
 refine⟨trivial,(callsIn_wide.2 (Zh ga _ n cap up _ s)).mono ?_⟩;rintro e w' ⟨rfl,rfl⟩;rw[H];gi_wp2
 refine⟨trivial,(callsIn_wide.2 (Zh ga _ n cap x _ s)).mono ?_⟩;rintro e w' ⟨rfl,rfl⟩;rw[G];gi_wp2
 refine⟨trivial,(callsIn_wide.2 (aE5 ga x _)).mono ?_⟩;rintro e w' ⟨rfl,rfl⟩;gi_wp2
 refine bB (gf:=274) (lb:=#[.pointer (some ⟨w.heap.size+1+1+1,0,none⟩),.pointer (some ⟨w.heap.size+1+1,0,none⟩),.pointer (some ⟨w.heap.size+1+1+1+1,0,none⟩)]) (w.heap.size+1+1+1) b up rfl (Go.Proofs.enters_of Proofs.Tryz.func274 AA rfl) Ax
  ?ź rfl
  (λW=>Below w.heap.size w W/\W.cell? ⟨w.heap.size,0,none⟩=some (.int .i64 up)/\W.cell? ⟨w.heap.size+1,0,none⟩=some (.bool false)/\W.frozen? ⟨w.heap.size+1,0,none⟩=false)
  (λW=>Below w.heap.size w W/\W.cell? ⟨w.heap.size+1,0,none⟩=some (.bool true)) ?hI ?hIx ?h0
  (λy=>{tmps:=#[.pointer (some ⟨ga,0,none⟩),.int .i64 up,.int .i64 x,undef,.pointer (some ⟨w.heap.size,0,none⟩),undef,.pointer (some ⟨w.heap.size+1,0,none⟩),.int .i64 y,.pointer (some ⟨ga,0,none⟩),.int .i64 up,.bool true,.bool false,.bool false,.pointer (some ⟨ga,0,none⟩),.int .i64 x,.bool true,.bool false,.bool false,.pointer (some ⟨ga,0,none⟩),.int .i64 x,.func (.func 274) #[] #[.pointer (some ⟨w.heap.size+1+1+1,0,none⟩),.pointer (some ⟨w.heap.size+1+1,0,none⟩),.pointer (some ⟨w.heap.size+1+1+1+1,0,none⟩)],.int .i64 y,undef,undef,undef],defers:=[]})
  ?hassign ?Wm ?mj ?ml
 case hI=>rintro A B row ⟨h1,h2,c,q⟩ hg hr;have Mg:=Dn c;have C:=Wv h2 hg (λr e=>by rcases hr r e with rfl|h<;>simp at* <;>omega);have m:=Wv c hg (λr e=>by rcases hr r e with rfl|h<;>simp at* <;>omega);exact⟨h1.grown hg Ab (λk e=>by rcases hr k e with rfl|h<;>simp at* <;>omega),C.1,m.1,m.2.trans q⟩
 case hIx=>rintro A B row ⟨h1,c⟩ hg hr;have Mg:=Dn c;have m:=Wv c hg (λr e=>by rcases hr r e with rfl|h<;>simp at* <;>omega);exact⟨h1.grown hg Ab (λk e=>by rcases hr k e with rfl|h<;>simp at* <;>omega),m.1⟩
 case h0=>
  refine⟨(((((Below.refl _ w).alloc (Ae _) _).alloc Ax _).alloc Ei _).alloc Ei _).alloc Ei _,?_,?_,?_⟩;.exact CG _ (CG _ (CG _ (CG _ z.1)))
  .exact CG _ (CG _ (CG _ d.1))
  .rw[Kx _ (CG _ (CG _ d.1)),Kx _ (CG _ d.1),Kx _ d.1];exact d.2
 case ź=>
  intro l J I W hW F E hj;have kk:∀{k j:Nat} {v:Value},(((((w.alloc (.cells #[.int .i64 up] 3)).alloc (.cells #[.bool false] 4)).alloc (.cells #[.pointer (some ⟨ga,0,none⟩)] 69)).alloc (.cells #[.int .i64 x] 3)).alloc (.cells #[.bool true] 4)).cell? ⟨k,j,none⟩=some v->W.cell? ⟨k,j,none⟩=some v:=
   λ{k j v} h=>by rw[CF (hW.block k (Dn h))];exact h
  have hs:gR (w.heap.size+1+1) (w.heap.size+1+1+1+1) ga gn off n cap cs W:=
   ⟨kk (CG _ (CG _ u.1)),kk t.1,kk (CG _ (CG _ (CG _ s))),λh k v h1 h2 c q=>kk (CG _ (CG _ (CG _ (CG _ (CG _ (hx h k v h1 h2 c q))))))⟩
  refine aE6 4 l (w.heap.size+1+1+1) (w.heap.size+1+1) (w.heap.size+1+1+1+1) _ ga gn off n cap cs up J I F E ?_ Ax OZ hm W x hs (kk (CG _ i.1)) ?_ (n+1) b hcl hj;.rintro b (rfl|rfl|rfl|rfl)<;>simp<;>omega
  .have:W.frozen? ⟨w.heap.size+1+1+1,0,none⟩=_:=World.frozen?_of_block (hW.block (w.heap.size+1+1+1) Ax);rw[this,Kx _ i.1];exact i.2
 case hassign=>
  intro l y W K f;have aJJ:=Oper.semAt_some l;gi_wp2
  exact f
 case Wm=>
  rintro l y W ⟨hb,Yg,KX,fm⟩;have aJJ:=Oper.semAt_some l;gi_wp2
  .rename_i he;obtain rfl:y=up:=eq_of_beq he;exact⟨KeepsOthers.setCell _ _ _,⟨hb.setCell (Fh _) _,World.cell?_setCell_same _ _ _ KX⟩,rfl⟩
  .rename_i he;exact⟨KeepsOthers.refl _,Below.refl _ _,⟨hb,Yg,KX,fm⟩,λe=>by subst e;simp at he⟩
 case mj=>
  rintro D W rfl ⟨hb,Yg,KX,fm⟩ f p;gi_wp2
  have g:=(KeepsOthers.setCell W ⟨w.heap.size+1,0,none⟩ (.bool false)).same D _ f rfl;have a:=cell_kept (World.cell?_setCell_same W ⟨w.heap.size+1,0,none⟩ (.bool false) KX) (grownBy_putObj' _ D (.deferred none)) (λr e=>by cases e;exact⟨_,g,rfl⟩);refine⟨Ax,.inl ⟨_,_,rfl,run_takeDeferred g,?_⟩⟩;refine⟨.bool false,?_,rfl,(hb.setCell (Fh _) _).grown (grownBy_putObj' _ D _) (by have:=Dn KX;simp;omega) (λk e=>by cases e;simp at p;omega)⟩;simp[results,Proofs.Tryz.f179,go_sem,a]
 case ml=>
  rintro D W rfl ⟨hb,KX⟩ f p;gi_wp2
  have a:=cell_kept KX (grownBy_putObj' _ D (.deferred none)) (λr e=>by cases e;exact⟨_,f,rfl⟩);refine⟨Ax,.inl ⟨_,_,rfl,run_takeDeferred f,?_⟩⟩;refine⟨.bool true,?_,rfl,hb.grown (grownBy_putObj' _ D _) (by have:=Dn KX;omega) (λk e=>by cases e;simp at p;omega)⟩;simp[results,Proofs.Tryz.f179,go_sem,a]
def Ww(ga:Nat)(p:Option Addr)(n cap:Nat)(up x:Int)(w:World)(hc:w.cell? ⟨ga,0,none⟩=some (.slice p n cap))(ho:¬(1<=up/\up<=n/\1<=x/\x<=n)):
  Calls Proofs.Tryz.prog 179 #[.pointer (some ⟨ga,0,none⟩),.int .i64 up,.int .i64 x] w λe w'=>e= .returned (.bool false)/\Below w.heap.size w w':=by
 have c:((w.alloc (.cells #[.int .i64 up] 3)).alloc (.cells #[.bool false] 4)).cell? ⟨ga,0,none⟩=some (.slice p n cap):=CG _ (CG _ hc);have a:=LA (w.alloc (.cells #[.int .i64 up] 3)) (.bool false) 4;simp only[World.size_alloc] at a;have hb:Below w.heap.size w ((w.alloc (.cells #[.int .i64 up] 3)).alloc (.cells #[.bool false] 4)):=((Below.refl _ w).alloc (Ae _) _).alloc Ax _;refine(callsIn_wide (n:=5)).1 ?_;refine callsIn_of_wp Proofs.Tryz.func179 rfl trivial ?_ rfl;simp only[Proofs.Tryz.ntmps179,BZ,AJ,Bt,Nat.reduceAdd,Nat.reduceSub,JR,JS,Mc,Kq,BT,CJ];by_cases h1:1<=up/\up<=n
 .have b:decide (1<=up/\up<=n)=true:=Al h1;have d:decide (1<=x/\x<=n)=false:=Ak λh2=>ho ⟨h1.1,h1.2,h2.1,h2.2⟩;gi_wp2
  refine⟨trivial,(callsIn_wide.2 (Zh ga _ n cap up _ c)).mono ?_⟩;rintro e w' ⟨rfl,rfl⟩;rw[b];gi_wp2
  refine⟨trivial,(callsIn_wide.2 (Zh ga _ n cap x _ c)).mono ?_⟩;rintro e w' ⟨rfl,rfl⟩;rw[d];gi_wp2
  refine bodyPost_ret (v:= .bool false) ?_ rfl ⟨rfl,hb⟩;simp[results,Proofs.Tryz.f179,go_sem,a.1]
 .have b:decide (1<=up/\up<=n)=false:=Ak h1;gi_wp2
  refine⟨trivial,(callsIn_wide.2 (Zh ga _ n cap up _ c)).mono ?_⟩;rintro e w' ⟨rfl,rfl⟩;rw[b];gi_wp2
  refine⟨trivial,?_⟩;gi_wp2
  refine bodyPost_ret (v:= .bool false) ?_ rfl ⟨rfl,hb⟩;simp[results,Proofs.Tryz.f179,go_sem,a.1]
section
variable{h:Ai}
def bC{cs:List Aa}{off:Nat}{x:Int}{k:Nat}{v:Int}(e:Gq cs off x k=some v):cs[off+(x.toNat-1)*13+k]?=some (.int .i64 v):=by
 unfold Gq at e;split at e;.rename_i a;cases e;exact a
 .cases e
def zj(n:Nat)(args:List Aa)(r:Aa)(h':Ai)(AI:IT.step (B4 cx) (IT.run (B4 cx) n) (Na args) h=some (.ret,[r],h')):
  (∃fn c,cx.P.funcs[Ea 179]?=some fn/\(fn.name== "runtime.NumGoroutine")=false/\fn.body=some c)/\
  ∀(U:Gh) (w:World) (cargs:Array Value),Hj U h w->(∀g cs,cx.GC g=some cs->CQ U cs g 0)->AW U args cargs.toList->
   Calls cx.P (Ea 179) cargs w λe w'=>match e with
    | .returned v=>∃d,Hj d h' w'/\Lx U w d w'/\BF d r v/\(cx.I3 179=true->∃s c,IE d w.heap.size w' s c v r)
    |_=>False:=by
 refine⟨⟨_,_,Proofs.Tryz.func179,rfl,rfl⟩,λU w cargs hi hg ha=>?_⟩;simp only[Na,IT.step,DS] at AI;cases e0:M9 h args with
 |none=>simp[e0] at AI
 |some C=>
 obtain⟨h1,E⟩:=C;simp only[e0] at AI;cases AI;have HM:∀(b:Bool) (cs:Array Value),h'=h->r= .bool b->Calls Proofs.Tryz.prog 179 cs w (λe w'=>e= .returned (.bool b)/\Below w.heap.size w w')->
   Calls cx.P (Ea 179) cs w λe w'=>match e with
    | .returned v=>∃d,Hj d h' w'/\Lx U w d w'/\BF d r v/\(cx.I3 179=true->∃s c,IE d w.heap.size w' s c v r)
    |_=>False:=by
  rintro b cs rfl rfl hc;refine hc.mono λe w' he=>?_;obtain⟨rfl,hb⟩:=he;obtain⟨Uc,RV⟩:=hi.KG hb;exact⟨U,Uc,RV,rfl,λe=>by cases e⟩
 unfold M9 at e0;split at e0
 .rename_i id up x;obtain⟨v0,us,xe,⟨g,hm,rfl⟩,D,Š,rfl,rfl,v2,lO,rfl,rfl,hnil⟩:=ha;cases hnil;have a:cargs=#[.pointer (some ⟨g,0,none⟩),.int .i64 up,.int .i64 x]:=by apply Ge;simpa using xe
  subst a;split at e0;.rename_i l hc;cases e0;obtain⟨_,y,hy,o⟩:=hi.Sa hc hm (j:=0) rfl;cases o;exact HM false _ rfl rfl (Ww g none 0 0 up x w hy Ab)
  .rename_i A off len l hc;split at e0
   .rename_i cs hcs;split at e0
    .rename_i hl;obtain⟨_,y,hy,gn,cap,Ę,rfl,u,⟨F,q⟩,p⟩:=hi.Sa hc hm (j:=0) rfl;have f:g<w.heap.size:=Dn hy;have Ġ:gn<w.heap.size:=by obtain⟨⟨us,e,fr,p1,p2⟩,_⟩:=hi.sz gn _ p;exact(AL.1 p1).1
     split at e0
     .rename_i hr;cases i:Lg cs off len up (len+1) x with
      |none=>simp[i] at e0
      |some b=>simp only[i,By,Bx,KU] at e0;obtain⟨rfl,rfl⟩:=e0;refine HM b _ rfl rfl (Ż g gn off len cap cs up x w f Ġ u q hy (λt k v h1 h2 G B=>?_) b i hr.1 hr.2.1 hr.2.2.1 hr.2.2.2);obtain⟨_,z,hz,m⟩:=hi.Sa hcs Ę (bC B);cases m;exact hz
     .rename_i hr;cases e0;exact HM false _ rfl rfl (Ww g _ len cap up x w hy hr)
    .cases e0
   .cases e0
  .cases e0
 .cases e0
end
def Oo{T e:TypeId}{B b:Nat}{bs:List Value}{W W':World}(h:Lib.IsBuilder T e B b bs W)(hb:Below W.heap.size W W'):Lib.IsBuilder T e B b bs W':=by
 have key:∀p,Lib.BuilderAt T e B b p bs W->Lib.BuilderAt T e B b p bs W':=λp ⟨hB,v,a,Fj,hne⟩=>by refine⟨hB,v,(hb.block b (AL.1 a).1).trans a,?_,hne⟩;exact Fj.kept (row:=none) ⟨hb.os,hb.tape,hb.output,hb.size,λk hk _=>hb.block k hk⟩ (Classical.em _)
 exact h.imp (key _) (key _)
def Kc(a b:List UInt8):Lib.byteCells (a++b)=Lib.byteCells a++Lib.byteCells b:=by simp[Lib.byteCells]
def byteCells_length(a:List UInt8):(Lib.byteCells a).length=a.length:=by simp[Lib.byteCells]
def nH(d:Nat):Lib.repeatL [32,32] d=List.replicate (2*d) 32:=by
 induction d with
 |zero=>rfl
 |succ d ih=>rw[Lib.repeatL,ih,(Ab:2*(d+1)=2*d+1+1),Kp,Kp];rfl
def nI:∀a:Aa,a.Me=true->a.still=true
 | .bool _,_=>rfl
 | .int _ _,_=>rfl
 | .str _,_=>rfl
 |a,h=>by cases a<;>first|rfl|simp[Aa.Me] at h
def Uo:∀l:List Aa,l.all Aa.Me=true->I6 l=true
 |[],_=>rfl
 |a::l,h=>by simp only[Z6,AN] at h;simp only[I6,AN];exact⟨nI a h.1,Uo l h.2⟩
section
variable{U:Gh}{h:Ai}{w:World}
def gS(hi:Hj U h w){id g:Nat}{cs:List Aa}(hc:h[id]?=some (.cells cs))(hm:U.mu id=some g):∀(n o:Nat),o+n<=cs.length->Mq (Cr cs 1 o n)=true->
  (Cr cs 1 o n).length=n/\EA (FQ w) (Cr cs 1 o n) 1 g o
 |0,o,_,_=>⟨rfl,trivial⟩
 |n+1,o,hl,hs=>by
  have hlt:o<cs.length:=Ab;have a:(cs.drop o).take 1=[cs[o]]:=by rw[Ay hlt];rfl
  have eU:I6 ((cs.drop o).take 1)=true/\Mq (Cr cs 1 (o+1) n)=true:=by simpa only[Cr,Mq,AN] using hs
  obtain⟨p,q⟩:=gS hi hc hm n (o+1) Ab eU.2;rw[a] at eU;have IK:cs[o].still=true:=by simpa[I6] using eU.1
  obtain⟨u,hu,h1,hr⟩:=Nc hi hc hm (As hlt);refine⟨by simp[Cr,p],?_⟩;simp only[Cr,a];exact⟨rfl,⟨⟨u,To hu h1,BF.mem hi _ _ IK hr⟩,trivial⟩,q⟩
def bD(w:World)(b o:Nat)(Bw:List (List Aa)):Prop:=
 ∃v,w.cell? ⟨b,o,none⟩=some v/\((v= .slice none 0 0/\Bw=[])\/
  (∃a c cap,v= .slice (some ⟨a,c,none⟩) Bw.length cap/\Bw.length<=cap/\cap<=maxLen/\a<w.heap.size/\EA (FQ w) Bw 1 a c))
def mm(hi:Hj U h w){id g:Nat}(hm:U.mu id=some g){x:Int}{h1:Ai}{r:Aa}(e:ao h [.ptr (some (id,0)),.int .i64 x]=some (h1,r)):
  h1=h/\∃gn off n cap row c Bw,r= .tuple [.BR row,.int .i64 c,.sl 1 Bw]/\g<w.heap.size/\gn<w.heap.size/\w.cell? ⟨g,0,none⟩=some (.slice (some ⟨gn,off,none⟩) n cap)/\n<=cap/\cap<=maxLen/\
   1<=x/\x<=n/\CQ (FQ w) row gn (off+(x.toNat-1)*13)/\w.cell? ⟨gn,off+(x.toNat-1)*13+11,none⟩=some (.int .i64 c)/\bD w gn (off+(x.toNat-1)*13+2) Bw:=by
 unfold ao at e;split at e
 .rename_i Fo x' JU;cases JU;split at e
  .rename_i W off n l hc;split at e
   .rename_i cs hcs;split at e
    .rename_i hx;split at e
     .rename_i A z G v t s q p o k eZ c ě hrow;split at e
      .rename_i IK;simp only[I6,AN,Mb] at IK;obtain⟨s0,R,Q,P,O,N,M,L,K,C,B⟩:=IK;obtain⟨_,y,hy,gn,cap,Ę,rfl,J,⟨Y,I⟩,V⟩:=hi.Sa hc hm (j:=0) rfl;have Ġ:gn<w.heap.size:=by obtain⟨⟨us,e,fr,p1,p2⟩,_⟩:=hi.sz gn _ V;exact(AL.1 p1).1
       have get:∀(j:Nat) (a:Aa),j<13->[A,z,G,v,t,s,q,p,o,k,eZ,.int .i64 c,ě][j]?=some a->cs[off+(x.toNat-1)*13+j]?=some a:=λj a hj ha=>by rw[<-hrow,CM hj,Cp] at ha;exact ha
       have key:∀(j:Nat) (a:Aa),j<13->[A,z,G,v,t,s,q,p,o,k,eZ,.int .i64 c,ě][j]?=some a->a.still=true->∃u,(FQ w).HU gn (off+(x.toNat-1)*13+j)=some u/\BF (FQ w) a u:=λj a hj ha hs=>by obtain⟨u,hu,ho,hr⟩:=Nc hi hcs Ę (get j a hj ha);exact⟨u,To hu ho,BF.mem hi _ _ hs hr⟩
       have sI:w.cell? ⟨gn,off+(x.toNat-1)*13+11,none⟩=some (.int .i64 c):=by obtain⟨u,hu,_,hr⟩:=Nc hi hcs Ę (get 11 _ Ab rfl);cases hr;exact hu
       obtain⟨X,Qz,rQ,LP⟩:=Nc hi hcs Ę (get 2 G Ab rfl);have mk:∀(D:Aa),(∃u,(FQ w).HU gn (off+(x.toNat-1)*13+2)=some u/\BF (FQ w) D u)->CQ (FQ w) [A,z,D,v,t,s,q,p,o,k,eZ,.int .i64 c,ě] gn (off+(x.toNat-1)*13):=λD h2=>⟨key 0 A Ab rfl s0,key 1 z Ab rfl R,h2,key 3 v Ab rfl Q,key 4 t Ab rfl P,key 5 s Ab rfl O,key 6 q Ab rfl N,key 7 p Ab rfl M,key 8 o Ab rfl L,key 9 k Ab rfl K,key 10 eZ Ab rfl C,key 11 _ Ab rfl rfl,key 12 ě Ab rfl B,trivial⟩
       have hg:=Dn hy;split at e;.cases e;cases LP;exact⟨rfl,gn,off,n,cap,_,c,[],rfl,hg,Ġ,hy,J,I,hx.1,hx.2.1,mk _ ⟨_,To Qz rQ,rfl⟩,sI,_,Qz,.inl ⟨rfl,rfl⟩⟩
       .rename_i PZ f m;split at e
        .rename_i ks yo;split at e
         .rename_i hk;cases e;obtain⟨i,b,E,rfl,H,⟨r2,T⟩,S⟩:=LP;obtain⟨d,t2⟩:=gS hi yo E m f Ab hk.2;have F:i<w.heap.size:=by obtain⟨⟨us,e,fr,p1,p2⟩,_⟩:=hi.sz i _ S;exact(AL.1 p1).1
          refine⟨rfl,gn,off,n,cap,_,c,Cr ks 1 f m,rfl,hg,Ġ,hy,J,I,hx.1,hx.2.1,mk _ ⟨_,To Qz rQ,⟨i,f,none⟩,b,by rw[d],by rw[d];exact H,.inl rfl,t2⟩,sI,_,Qz,.inr ⟨i,f,b,by rw[d],by rw[d];exact H,T,F,t2⟩⟩
         .cases e
        .cases e
       .cases e
      .cases e
     .cases e
    .cases e
   .cases e
  .cases e
 .cases e
def zk{n:Nat}(hs:EP cx (IT.run (B4 cx) n))(hi:Hj U h w)(hg:∀g cs,cx.GC g=some cs->CQ U cs g 0){row:List Aa}{s:Ah}{h1:Ai}(e:IT.run (B4 cx) n (B4 cx 213 [.BR row]) []=some (.ret,[.str s],h1))
  {W:World} (hb:Below w.heap.size w W) {gn o:Nat} (hr:CQ (FQ w) row gn o):
  Calls Proofs.Tryz.prog 213 #[.pointer (some ⟨gn,o,none⟩)] W λe W'=>e= .returned (.string ⟨⟨s⟩⟩)/\Below W.heap.size W W':=by
 refine((hs.2 213 _ _ _ _ e).2 (FQ W) W #[.pointer (some ⟨gn,o,none⟩)] (mb W) (λg cs Đ=>CQ.mono (gP hb) cs g 0 (CQ.mem hi cs g 0 (Uo cs (hs.1.1 g cs Đ)) (hg g cs Đ)))
  ⟨_,_,rfl,⟨gn,o,rfl,CQ.mono (gP hb) row gn o hr⟩,rfl⟩).mono λe W' he=>?_
 cases e with
 |returned v=>obtain⟨a,_,ha,hv,_⟩:=he;cases hv;exact⟨rfl,ha.os,ha.tape,ha.output,ha.size,λk hk=>(ha.Nw k hk (λid=>by simp[FQ])).1⟩
 |_=>exact he.elim
end
def zl{w:World}{b o:Nat}{Bw:List (List Aa)}(h:bD w b o Bw):∃p cap,w.cell? ⟨b,o,none⟩=some (.slice p Bw.length cap)/\Bw.length<=cap/\cap<=maxLen/\
  ∀(i:Nat) (y:Int),Bw[i]?=some [.int .i64 y]->∃a c,p=some ⟨a,c,none⟩/\a<w.heap.size/\w.cell? ⟨a,c+i,none⟩=some (.int .i64 y):=by
 obtain⟨v,hv,⟨rfl,rfl⟩|⟨a,c,cap,rfl,h1,h2,e,d⟩⟩:=h;.exact⟨none,0,hv,Ae _,AM,λi y hi=>by simp at hi⟩
 .refine⟨_,cap,hv,h1,h2,λi y hi=>⟨a,c,rfl,e,?_⟩⟩;obtain⟨_,⟨u,hu,hr⟩,_⟩:=EA.get d hi;cases hr;have:=hu;simp only[FQ,Qn] at this;simpa using this.1
def gT(l:List UInt8):Lib.strCells ⟨l.toArray⟩=Lib.byteCells l:=by simp[Lib.strCells,Lib.byteCells]
def bE(l:List UInt8):Lib.strCells ⟨⟨l⟩⟩=Lib.byteCells l:=by simp[Lib.strCells,Lib.byteCells]
def nJ(i n:Nat)(h:i<n)(hn:n<=9223372036854775807):wrap64 ((i:Int)+1)=((i+1:Nat):Int):=by rw[Go.IntWalk.wrap64_in _ ⟨Ab,Ab⟩];omega
def Zi(d:Nat)(h:d<=1000):wrap64 ((d:Int)+1)=((d+1:Nat):Int):=by rw[Go.IntWalk.wrap64_in _ ⟨Ab,Ab⟩];omega
abbrev gh(g:Nat)(w0:World)(x:Int)(d:Nat)(DA Q1:Ah):Prop:=
 ∀(B b:Nat) (W:World),w0.heap.size<=B->B<=W.heap.size->Below w0.heap.size w0 W->Lib.IsBuilder 161 5 B b (Lib.byteCells DA) W->
  Calls Proofs.Tryz.prog 141 #[.pointer (some ⟨g,0,none⟩),.pointer (some ⟨b,0,none⟩),.int .i64 x,.int .i64 d] W λe W'=>(∃v,e= .returned v)/\Lib.IsBuilder 161 5 B b (Lib.byteCells Q1) W'/\Below B W W'
def au{p:Prop}(h:p):Hid p:=h
def LR{w0 W':World}{k j:Nat}{v:Value}(hb:Below w0.heap.size w0 W')(h:w0.cell? ⟨k,j,none⟩=some v):W'.cell? ⟨k,j,none⟩=some v:=by rw[CF (hb.block k (Dn h))];exact h
def nK:Code->Code
 | .seq _ c=>nK c
 | .block _ c=>c
 |c=>c
noncomputable def mn:Code:=match Proofs.Tryz.f141.body with
 |some c=>nK c
 |none=> .skip
def mo{w0 W W6:World}{g B b d a:Nat}{p:Option Addr}{Bw:List (List Aa)}(hB:w0.heap.size<=B)(h:B<=W.heap.size)(hb:Below w0.heap.size w0 W)(hd:d<=1000)
  (X5:Bw.length<=a) (lT:a<=maxLen) (zi:∀(i:Nat) (y:Int),Bw[i]?=some [.int .i64 y]->∃l Y,p=some ⟨l,Y,none⟩/\l<w0.heap.size/\w0.cell? ⟨l,Y+i,none⟩=some (.int .i64 y))
  (f:Nat->Ah) (hf:∀i,i<Bw.length->∃y,Bw[i]?=some [.int .i64 y]/\gh g w0 y (d+1) (f i) (f (i+1))) (j:Below B W W6) (l6:Lib.IsBuilder 161 5 B b (Lib.byteCells (f 0)) W6)
  (z2 z4 z5 z6 z7 z8 z9 z10 V z12 U z14 T z16 S R Q z20 P z22 z23 z24 O z26 z27 N M L K J I H G z36 z37 F E D C A z x w u t z51 s z53 r q o n m:Value):
  mn.wpIn Fence.wide 5 Proofs.Tryz.prog (Exit.inBlock 0<|bodyPost Proofs.Tryz.prog Proofs.Tryz.f141 λe W'=>(∃v,e= .returned v)/\Lib.IsBuilder 161 5 B b (Lib.byteCells (f Bw.length)) W'/\Below B W W')
   {tmps:=#[.pointer (some ⟨g,0,none⟩),.pointer (some ⟨b,0,none⟩),z2,.int .i64 d,z4,z5,z6,z7,z8,z9,z10,V,z12,U,z14,T,z16,S,R,Q,z20,P,z22,z23,z24,O,z26,z27,N,M,L,K,J,I,H,G,z36,z37,F,E,D,C,A,z,x,w,.slice p Bw.length a,.int .i64 Bw.length,.int .i64 0,u,t,z51,s,z53,r,q,o,n,m],defers:=[]} W6:=by
 simp only[mn,nK,Proofs.Tryz.f141];gi_loopg [48] Bw.length (λk v wr=>∃i,i<=Bw.length/\k=Bw.length-i/\v= .int .i64 (i:Nat)/\Below B W wr/\Lib.IsBuilder 161 5 B b (Lib.byteCells (f i)) wr)
 case atStart=>exact⟨0,A7 _,rfl,rfl,j,l6⟩
 case round=>
  obtain⟨i,hi,rfl,rfl,bbi,X⟩:=hrel;by_cases hlt:i<Bw.length
  .obtain⟨y,hy,ġ⟩:=hf i hlt;obtain⟨l,Y,rfl,hgk,Jh⟩:=zi i y hy;have c:Below w0.heap.size w0 wr:=hb.trans (bbi.mono hB);have ci:=LR c Jh;have aQz:(i:Int)<(Bw.length:Int):=by exact_mod_cast hlt
   have Z:=nJ i _ hlt (Bp X5 lT);have hwd:=Zi d hd;have Vj:=ġ B b _ hB (Bp h bbi.size) c X;clear ġ hf zi X5 lT c X l6 j Jh hy hgk hB h hb;rw[show((d+1:Nat):Int)=(d:Int)+1 from rfl] at Vj;gi_wp2
   refine⟨trivial,(callsIn_wide.2 Vj).mono ?_⟩;rintro e W7 ⟨⟨v,rfl⟩,l7,b7⟩;gi_wp2
   gi_roundg (Bw.length-(i+1))
   case measure=>exact Nat.sub_lt_sub_left hlt (SZ i)
   case rel=>refine⟨i+1,hlt,rfl,?_,bbi.trans b7,l7⟩;first|rfl|exact B2 (Value.int .i64) Z
  .obtain rfl:i=Bw.length:=Nat.le_antisymm hi (Nat.le_of_not_lt hlt);gi_wp2
   go_end0
   exact⟨⟨_,rfl⟩,X,bbi⟩
def ż{w0:World}{g gn off n cap:Nat}{c x:Int}{Bw:List (List Aa)}(Ū:g<w0.heap.size)(Ġ:gn<w0.heap.size)(hc:w0.cell? ⟨g,0,none⟩=some (.slice (some ⟨gn,off,none⟩) n cap))(OZ:n<=cap)(hm:cap<=maxLen)
  (Rw:1<=x) (Yl:x<=n) (gU:w0.cell? ⟨gn,off+(x.toNat-1)*13+11,none⟩=some (.int .i64 c)) (hk:bD w0 gn (off+(x.toNat-1)*13+2) Bw)
  {d:Nat} (hd:d<=1000) {DA h s:Ah}
  (sJ:∀W,Below w0.heap.size w0 W->Calls Proofs.Tryz.prog 213 #[.pointer (some ⟨gn,off+(x.toNat-1)*13,none⟩)] W λe W'=>e= .returned (.string ⟨⟨s⟩⟩)/\Below W.heap.size W W')
  (hlen:(DA++List.replicate (2*d) 32++s++[10]).length<=AO)
  (sK:(c=0/\h=DA++List.replicate (2*d) 32++s++[10])\/(c≠0/\gh g w0 c (d+1) (DA++List.replicate (2*d) 32++s++[10]) h))
  (f:Nat->Ah) (xc:f 0=h) (hf:∀i,i<Bw.length->∃y,Bw[i]?=some [.int .i64 y]/\gh g w0 y (d+1) (f i) (f (i+1))):
  gh g w0 x d DA (f Bw.length):=by
 intro B b W hB a hb F;obtain⟨p,O,xb,X5,lT,zi⟩:=zl hk;have đ:AO=140737488355328:=rfl;simp only[Aq,Fs,AJ,Bt] at hlen;have N:2*d<=140737488355328:=by rw[đ] at hlen;omega
 have M:(Lib.byteCells DA).length+(⟨(List.replicate (2*d) (32:UInt8)).toArray⟩:ByteArray).size<=140737488355328:=by rw[đ] at hlen;rw[byteCells_length];simp only[ByteArray.size,BZ,Fs];omega
 have L:(Lib.byteCells (DA++List.replicate (2*d) 32)).length+(⟨⟨s⟩⟩:ByteArray).size<=140737488355328:=by rw[đ] at hlen;rw[byteCells_length];simp only[ByteArray.size,Aq,Fs];show _+s.length<=_;omega
 have K:(Lib.byteCells (DA++List.replicate (2*d) 32++s)).length+1<=140737488355328:=by rw[đ] at hlen;rw[byteCells_length];simp only[Aq,Fs];omega
 have J:d<=9223372036854775807:=Bp hd AM;clear hlen đ;have Hline:=au sJ;have m:=au sK;have R:=au hf;have u:=au zi;have z:=au X5;have w:=au lT;clear sJ sK hf zi hk X5 lT;refine(callsIn_wide (n:=5)).1 ?_;refine callsIn_of_wp Proofs.Tryz.func141 rfl trivial ?_ rfl;simp only[Proofs.Tryz.ntmps141,BZ,AJ,Bt,Nat.reduceAdd,Nat.reduceSub,JR,JS,Mc,Kq,BT,CJ];gi_wp2
 refine⟨trivial,(callsIn_wide.2 (aE4 g gn off n cap x _ (LR hb hc) Rw Yl OZ hm)).mono ?_⟩;rintro e w' ⟨rfl,rfl⟩;gi_wp2
 refine⟨trivial,(callsIn_wide.2 (Proofs.Tryz.strings_Repeat ⟨#[32,32]⟩ d _ J N)).mono ?_⟩;rintro e W1 ⟨rfl,b1⟩;have S7:Below w0.heap.size w0 W1:=hb.trans (b1.mono hb.size);have t:Below B W W1:=b1.mono a;have l1:=Oo F b1;have hr:(Lib.repeatL (⟨#[32,32]⟩:ByteArray).data.toList d)=List.replicate (2*d) 32:=nH d;rw[hr];gi_wp2
 refine⟨trivial,(callsIn_wide.2 (Proofs.Tryz.Builder_WriteString B b (Lib.byteCells DA) _ _ l1 M (Bp a t.size))).mono ?_⟩;rintro e V ⟨rfl,D,b2⟩;rw[gT,<-Kc] at D;have r:=t.trans b2;have Qk:Below w0.heap.size w0 V:=S7.trans (b2.mono hB);gi_wp2
 refine⟨trivial,(callsIn_wide.2 (Hline.out _ Qk)).mono ?_⟩;rintro e W3 ⟨rfl,b3⟩;have Ž:Below w0.heap.size w0 W3:=Qk.trans (b3.mono Qk.size);have q:Below B W W3:=r.trans (b3.mono (Bp a r.size));have l3:=Oo (.inr D) b3;gi_wp2
 refine⟨trivial,(callsIn_wide.2 (Proofs.Tryz.Builder_WriteString B b _ _ _ l3 L (Bp a q.size))).mono ?_⟩;rintro e U ⟨rfl,l4,b4⟩;rw[bE,<-Kc] at l4;have o:=q.trans b4;have H:Below w0.heap.size w0 U:=Ž.trans (b4.mono hB);gi_wp2
 refine⟨trivial,(callsIn_wide.2 (Proofs.Tryz.Builder_WriteByte B b _ 10 _ (.inr l4) K (Bp a o.size))).mono ?_⟩;rintro e Q ⟨rfl,A,b5⟩;have I:Lib.byteCells (DA++List.replicate (2*d) 32++s)++[Value.int .u8 10]=Lib.byteCells (DA++List.replicate (2*d) 32++s++[10]):=by rw[Kc (DA++List.replicate (2*d) 32++s) [10]];rfl
 replace A:=I▸A;have l:=o.trans b5;have j:Below w0.heap.size w0 Q:=H.trans (b5.mono hB);have X:=LR j gU;clear OZ hm Rw Yl hc N M L K J l1 l3 l4 D;rcases m.out with⟨rfl,rfl⟩|⟨E,gV⟩
 .have k:=l;have l6:Lib.IsBuilder 161 5 B b (Lib.byteCells (f 0)) Q:=by rw[xc];exact .inr A
  have T:=LR j xb;gi_wp2
  exact mo hB a hb hd z.out w.out u.out f R.out k l6 _ _ _ _ _ _ _ _ _ _ _ _ _ _ _ _ _ _ _ _ _ _ _ _ _ _ _ _ _ _ _ _ _ _ _ _ _ _ _ _ _ _ _ _ _ _ _ _ _ _ _ _ _
 .have hne:(c != 0)=true:=by simp[E]
  have S:=Zi d hd;have aFa:=gV B b _ hB (Bp a l.size) j (.inr A);rw[show((d+1:Nat):Int)=(d:Int)+1 from rfl] at aFa;gi_wp2
  refine⟨trivial,(callsIn_wide.2 aFa).mono ?_⟩;rintro e P ⟨⟨v,rfl⟩,C,b6⟩;have k:=l.trans b6;have G:Below w0.heap.size w0 P:=j.trans (b6.mono hB);have l6:Lib.IsBuilder 161 5 B b (Lib.byteCells (f 0)) P:=by rw[xc];exact C
  have T:=LR G xb;gi_wp2
  exact mo hB a hb hd z.out w.out u.out f R.out k l6 _ _ _ _ _ _ _ _ _ _ _ _ _ _ _ _ _ _ _ _ _ _ _ _ _ _ _ _ _ _ _ _ _ _ _ _ _ _ _ _ _ _ _ _ _ _ _ _ _ _ _ _ _
section
variable{U:Gh}{h:Ai}{w0:World}
abbrev ž(fuel d:Nat)(a:Aa):List Aa->(Ah->IT)->Ah->IT:=λPZ K DA=>match PZ with
 |[.int .i64 y]=>HA 213 a fuel y (d+1) DA K
 |_=> .fail
def gW{run:IT->Ai->Option Jp}{g fuel d:Nat}{a:Aa}(ih:∀(x:Int) (DA:Ah) (k:Ah->IT) (res:Jp),IT.step (B4 cx) run (HA 213 a fuel x (d+1) DA k) h=some res->∃Q1,IT.step (B4 cx) run (k Q1) h=some res/\gh g w0 x (d+1) DA Q1):
  ∀(Bw:List (List Aa)) (DA:Ah) (k:Ah->IT) (res:Jp),IT.step (B4 cx) run (Bw.foldr (ž fuel d a) k DA) h=some res->
   ∃f:Nat->Ah,f 0=DA/\IT.step (B4 cx) run (k (f Bw.length)) h=some res/\∀i,i<Bw.length->∃y,Bw[i]?=some [.int .i64 y]/\gh g w0 y (d+1) (f i) (f (i+1))
 |[],DA,k,res,e=>⟨λ_=>DA,rfl,e,λi hi=>by simp at hi⟩
 |PZ::Bw,DA,k,res,e=>by
  simp only[List.foldr_cons] at e;unfold ž at e;split at e
  .rename_i y;obtain⟨b,j,l⟩:=ih _ _ _ _ e;obtain⟨f,f0,f1,f2⟩:=gW ih Bw b k res j;refine⟨λ|0=>DA|i+1=>f i,rfl,f1,λi hi=>?_⟩;cases i with
   |zero=>
    have hc:gh g w0 y (d+1) DA (f 0):=by rw[f0];exact l
    exact⟨y,rfl,hc⟩
   |succ i=>obtain⟨c,p,q⟩:=f2 i (by simpa using hi);exact⟨c,by simpa using p,q⟩
  .cases e
def mq{run:IT->Ai->Option Jp}{a:Aa}{x:Int}{d:Nat}{DA:Ah}{k:Ah->IT}{res:Jp}(fuel:Nat)(e:IT.step (B4 cx) run (HA 213 a fuel x d DA k) h=some res):∃id,a= .ptr (some (id,0)):=by
 cases fuel with
 |zero=>simp[HA,IT.step] at e
 |succ fuel=>
  simp only[HA,IT.step,DS] at e;cases e0:ao h [a,.int .i64 x] with
  |none=>simp[e0] at e
  |some b=>
   unfold ao at e0;split at e0;.rename_i id x' JU;cases JU;exact⟨id,rfl⟩
   .cases e0
def gX{n:Nat}(hs:EP cx (IT.run (B4 cx) n))(hi:Hj U h w0)(hg:∀g cs,cx.GC g=some cs->CQ U cs g 0){id g:Nat}(hm:U.mu id=some g):
  ∀(fuel:Nat) (x:Int) (d:Nat) (DA:Ah) (k:Ah->IT) (res:Jp),d+fuel<=1000->IT.step (B4 cx) (IT.run (B4 cx) n) (HA 213 (.ptr (some (id,0))) fuel x d DA k) h=some res->
   ∃Q1,IT.step (B4 cx) (IT.run (B4 cx) n) (k Q1) h=some res/\gh g w0 x d DA Q1/\∃p cap ln,w0.cell? ⟨g,0,none⟩=some (.slice p ln cap)/\1<=x/\x<=ln
 |0,x,d,DA,k,res,_,e=>by simp[HA,IT.step] at e
 |fuel+1,x,d,DA,k,res,hd,e=>by
  simp only[HA,IT.step,DS] at e;cases e0:ao h [.ptr (some (id,0)),.int .i64 x] with
  |none=>simp[e0] at e
  |some m=>
  obtain⟨h1,r⟩:=m;simp only[e0] at e;obtain⟨j,gn,off,t,cap,row,c,Bw,rfl,Ū,Ġ,hc,OZ,xi,Rw,Yl,hrow,gU,hk⟩:=mm hi hm e0;simp only[IT.step] at e;rw[j] at e;clear j;cases i:IT.run (B4 cx) n (B4 cx 213 [.BR row]) [] with
  |none=>simp[i] at e
  |some R1=>
  simp only[i] at e;split at e
  .rename_i o Č JU;cases JU;split at e
   .split at e
    .rename_i s Io;split at e
     .rename_i hlen;have ih:∀(x:Int) (DA:Ah) (k:Ah->IT) (res:Jp),IT.step (B4 cx) (IT.run (B4 cx) n) (HA 213 (.ptr (some (id,0))) fuel x (d+1) DA k) h=some res->∃Q1,IT.step (B4 cx) (IT.run (B4 cx) n) (k Q1) h=some res/\gh g w0 x (d+1) DA Q1:=λx DA k res e=>by obtain⟨Q1,p,q,_⟩:=gX hs hi hg hm fuel x (d+1) DA k res Ab e;exact⟨Q1,p,q⟩
      have sJ:∀W,Below w0.heap.size w0 W->Calls Proofs.Tryz.prog 213 #[.pointer (some ⟨gn,off+(x.toNat-1)*13,none⟩)] W λe W'=>e= .returned (.string ⟨⟨s⟩⟩)/\Below W.heap.size W W':=
       λW hb=>zk hs hi hg i hb hrow
      have HM:∀a,((c=0/\a=DA++List.replicate (2*d) 32++s++[10])\/(c≠0/\gh g w0 c (d+1) (DA++List.replicate (2*d) 32++s++[10]) a))->
        IT.step (B4 cx) (IT.run (B4 cx) n) (Bw.foldr (ž fuel d (.ptr (some (id,0)))) k a) h=some res->∃Q1,IT.step (B4 cx) (IT.run (B4 cx) n) (k Q1) h=some res/\gh g w0 x d DA Q1/\∃p cap ln,w0.cell? ⟨g,0,none⟩=some (.slice p ln cap)/\1<=x/\x<=ln:=by
       intro a sK l;obtain⟨f,f0,f1,f2⟩:=gW ih Bw a k res l;exact⟨f Bw.length,f1,ż Ū Ġ hc OZ xi Rw Yl gU hk Ab sJ hlen sK f f0 f2,_,_,_,hc,Rw,Yl⟩
      split at e;.rename_i b;exact HM _ (.inl ⟨b,rfl⟩) e
      .rename_i b;obtain⟨a,p,q⟩:=ih _ _ _ _ e;exact HM a (.inr ⟨b,q⟩) p
     .cases e
    .cases e
   .cases e
  .cases e
end
def ſ{w0:World}{g ln cap:Nat}{p:Option Addr}{x:Int}{s:Ah}(Ū:g<w0.heap.size)(hc:w0.cell? ⟨g,0,none⟩=some (.slice p ln cap))(Rw:1<=x)(Yl:x<=ln)(gV:gh g w0 x 0 [] s):
  Calls Proofs.Tryz.prog 47 #[.pointer (some ⟨g,0,none⟩),.int .i64 x] w0 λe w'=>e= .returned (.string ⟨⟨s⟩⟩)/\Below w0.heap.size w0 w':=by
 have b:decide (1<=x/\x<=ln)=true:=Al ⟨Rw,Yl⟩;have aJP:(w0.alloc (.cells #[.pointer none,.slice none 0 0] 161)).heap[w0.heap.size]?=some (.cells #[.pointer none,.slice none 0 0] 161 (0,0)):=World.alloc_heap_new w0 _;have S7:Below w0.heap.size w0 (w0.alloc (.cells #[.pointer none,.slice none 0 0] 161)):=(Below.refl _ w0).alloc (Ae _) _;have l1:Lib.IsBuilder 161 5 w0.heap.size w0.heap.size (Lib.byteCells []) (w0.alloc (.cells #[.pointer none,.slice none 0 0] 161)):=
  .inl ⟨Ae _,.slice none 0 0,aJP,World.ownsRow_nil _ _ _ _,by simp[Value.ownBlock]⟩
 have Vj:=gV w0.heap.size w0.heap.size _ (Ae _) Ax S7 l1;rw[show((0:Nat):Int)=0 from rfl] at Vj;refine(callsIn_wide (n:=5)).1 ?_;refine callsIn_of_wp Proofs.Tryz.func47 rfl trivial ?_ rfl;simp only[Proofs.Tryz.ntmps47,BZ,AJ,Bt,Nat.reduceAdd,Nat.reduceSub,JR,JS,Mc,Kq,BT,CJ];gi_wp2
 refine⟨trivial,(callsIn_wide.2 (Zh g _ ln cap x _ hc)).mono ?_⟩;rintro e w' ⟨rfl,rfl⟩;rw[b];gi_wp2
 refine⟨trivial,(callsIn_wide.2 Vj).mono ?_⟩;rintro e c ⟨⟨v,rfl⟩,a,b2⟩;gi_wp2
 refine⟨trivial,(callsIn_wide.2 (Proofs.Tryz.Builder_String_any w0.heap.size w0.heap.size s _ a (by have:=b2.size;have:=S7.size;omega))).mono ?_⟩;rintro e W3 ⟨rfl,b3⟩;gi_wp2
 refine bodyPost_ret (results_tmp rfl _ _ _) rfl ?_;exact⟨rfl,(S7.trans b2).trans b3⟩
def aAa{h:Ai}(n:Nat)(hs:EP cx (IT.run (B4 cx) n))(args:List Aa)(r:Aa)(h':Ai)(AI:IT.step (B4 cx) (IT.run (B4 cx) n) (sD 213 args) h=some (.ret,[r],h')):
  (∃fn c,cx.P.funcs[Ea 47]?=some fn/\(fn.name== "runtime.NumGoroutine")=false/\fn.body=some c)/\
  ∀(U:Gh) (w:World) (cargs:Array Value),Hj U h w->(∀g cs,cx.GC g=some cs->CQ U cs g 0)->AW U args cargs.toList->
   Calls cx.P (Ea 47) cargs w λe w'=>match e with
    | .returned v=>∃d,Hj d h' w'/\Lx U w d w'/\BF d r v/\(cx.I3 47=true->∃s c,IE d w.heap.size w' s c v r)
    |_=>False:=by
 refine⟨⟨_,_,Proofs.Tryz.func47,rfl,rfl⟩,λU w cargs hi hg ha=>?_⟩;have aJQ:∃id x,args=[.ptr (some (id,0)),.int .i64 x]:=by
  unfold sD at AI;split at AI;.rename_i a x;obtain⟨id,rfl⟩:=mq _ AI;exact⟨id,x,rfl⟩
  .cases AI
 obtain⟨id,x,rfl⟩:=aJQ;obtain⟨v0,us,xe,⟨g,hm,rfl⟩,i,Š,rfl,rfl,hnil⟩:=ha;cases hnil;have b:cargs=#[.pointer (some ⟨g,0,none⟩),.int .i64 x]:=by apply Ge;simpa using xe
 subst b;simp only[sD] at AI;obtain⟨DA,f,gV,p,cap,ln,hc,Rw,Yl⟩:=gX hs hi hg hm 100 x 0 [] _ _ Ab AI;cases f;refine(ſ (Dn hc) hc Rw Yl gV).mono λe w' he=>?_;obtain⟨rfl,hb⟩:=he;obtain⟨Uc,RV⟩:=hi.KG hb;exact⟨U,Uc,RV,rfl,λe=>by cases e⟩
end Go.Am
end
