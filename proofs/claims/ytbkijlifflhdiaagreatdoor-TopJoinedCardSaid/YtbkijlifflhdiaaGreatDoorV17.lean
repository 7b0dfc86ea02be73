/- Lemmas -/
import Derived.Test.YtbkijlifflhdiaaGreatDoorV16
import Derived.Shelf.Slices.Clone
import Derived.Maps.OwnIn
set_option linter.all false
set_option maxHeartbeats 0
set_option maxRecDepth 100000
section
namespace Go.Proofs
open Go.Shelf
def Tryz.YP:Go.Shelf.Ren:=⟨λ|15=>77|n=>n,λ|22=>52|3=>3|4=>4|0=>0|n=>n,λ|n=>n⟩
def Tryz.Sa:Go.Proofs.Lays2.n15 Tryz.prog Tryz.YP:={
 mixed:=AQ
 f15:=Tryz.func77.trans (B1 some AQ)
 t3:=Tryz.underlying3
 a3:=Tryz.isAgg3
 z3:=Tryz.sizeOf3
 v3:=Tryz.zeroValue3
 t4:=Tryz.underlying4
 a4:=Tryz.isAgg4
 z4:=Tryz.sizeOf4
 v4:=Tryz.zeroValue4
 t22:=Tryz.underlying52
 a22:=Tryz.isAgg52
 z22:=Tryz.sizeOf52
 v22:=Tryz.zeroValue52
 i3:=by kernel_rfl}
end Go.Proofs
namespace Go.Am
open Go Go.RowKit Go.Shelf
def Ti(g:Nat)(w:World)(x:Int)(l:List Int):Prop:=
 ∃gn off n cap,w.cell? ⟨g,0,none⟩=some (.slice (some ⟨gn,off,none⟩) n cap)/\1<=x/\x<=(n:Nat)/\n<=cap/\cap<=maxLen/\
  ((w.cell? ⟨gn, off + (x.toNat - 1) * 13 + 2, none⟩ = some (.slice none 0 0) /\ l = []) \/
   ∃ c b a, w.cell? ⟨gn, off + (x.toNat - 1) * 13 + 2, none⟩ = some (.slice (some ⟨c, b, none⟩) l.length a) /\ l.length * 8 <= 140737488355328 /\ ∀ j, j < l.length -> w.cell? ⟨c, b + j, none⟩ = some (.int .i64 (l.getD j 0)))
def Ti.below{g:Nat}{w W:World}{x:Int}{l:List Int}(hb:Below w.heap.size w W):Ti g w x l->Ti g W x l
 |⟨gn,off,n,cap,h1,h2,i,h,f,a⟩=>by
  refine⟨gn,off,n,cap,by rw[BI (hb.block _ (Cr h1))];exact h1,h2,i,h,f,?_⟩;rcases a with⟨a,e⟩|⟨k,c,b,a,d,h8⟩
  .exact .inl ⟨by rw[BI (hb.block _ (Cr a))];exact a,e⟩
  .exact .inr ⟨k,c,b,by rw[BI (hb.block _ (Cr a))];exact a,d,λj hj=>by rw[BI (hb.block _ (Cr (h8 j hj)))];exact h8 j hj⟩
def SlI(lo:Nat)(W:World)(v:Value)(l:List Int):Prop:=(v= .slice none 0 0/\l=[])\/∃b cap cur t,v= .slice (some ⟨b,0,none⟩) l.length cap/\lo<=b/\W.heap[b]?=some (.cells cur t (0,0))/\l.length<=cap/\cap<=maxLen/\cur.toList.take l.length=l.map (Value.int .i64)
def Tj{W:World}{b:Nat}{cur:Array Value}{t:TypeId}{l:List Int}(hc:W.heap[b]?=some (.cells cur t (0,0)))(ht:cur.toList.take l.length=l.map (Value.int .i64)){j:Nat}(hj:j<l.length):W.cell? ⟨b,j,none⟩=some (.int .i64 l[j]):=by
 have e:(cur.toList.take l.length)[j]?=some (Value.int .i64 l[j]):=by rw[ht];simp[hj]
 rw[Ca hj] at e;simp[World.cell?,hc,<-RV,e]
def mD{n k:Nat}{P:Program}{l:Nat}{args:Array Value}{W:World}{R:Ending->World->Prop}:YieldAt Fence.wide n P l args W R->YieldAt Fence.wide k P l args W R
 |⟨fn,tmps,assign,body,hy,h1,h2⟩=>⟨fn,tmps,assign,body,hy,h1,λc cs _=>h2 c cs (room_wide _)⟩
def nh{g:Nat}{x:Int}{l:List Int}{w:World}(k:Ti g w x l):
  Calls Proofs.Tryz.prog 84 #[.pointer (some ⟨g,0,none⟩),.int .i64 x] w λe W=>∃v,e= .returned v/\SlI w.heap.size W v l/\Below w.heap.size w W:=by
 obtain⟨gn,off,n,cap,h1,h2,f,m,j,d⟩:=k;have p:decide (1<=x/\x<=n)=true:=Bs ⟨h2,f⟩;refine(callsIn_wide (n:=5)).1 ?_;refine callsIn_of_wp Proofs.Tryz.func84 rfl trivial ?_ rfl;simp only[Proofs.Tryz.ntmps84,Bl,AH,Bd,Nat.reduceAdd,Nat.reduceSub,Dp,Dq,Er,DF,Bj,BW];gi_wp2
 refine⟨trivial,(callsIn_wide.2 (Te g _ n cap x _ h1)).mono ?_⟩;rintro e w' ⟨rfl,rfl⟩;rw[p];gi_wp2
 refine⟨trivial,(callsIn_wide.2 (mm g gn off n cap x _ h1 h2 f m j)).mono ?_⟩;rintro e w' ⟨rfl,rfl⟩;rcases d with⟨d,rfl⟩|⟨o,h,a,d,i,h8⟩
 .gi_wp2
  refine⟨trivial,(callsIn_wide.2 (Proofs.Any.slices_Clone_int_nil Proofs.Tryz.Sa 0 0 _)).mono ?_⟩;rintro e w' ⟨rfl,rfl⟩;gi_wp2
  refine bodyPost_ret (results_tmp rfl _ _ _) rfl ?_;exact⟨_,rfl,.inl ⟨rfl,rfl⟩,Below.refl _ _⟩
 .gi_wp2
  refine⟨trivial,(callsIn_wide.2 (Proofs.Any.slices_Clone_int Proofs.Tryz.Sa o h l.length a l _ (Af _) i h8)).mono ?_⟩;rintro e w' ⟨v,rfl,hr,hn,hb⟩;gi_wp2
  refine bodyPost_ret (results_tmp rfl _ _ _) rfl ?_;refine⟨_,rfl,?_,hb⟩;rcases hr.2 with⟨rfl,h0⟩|hr
  .exact absurd rfl hn
  .obtain⟨b,cap',cur,rfl,c,hc,hl,hm,hsz,ht⟩:=hr;exact .inr ⟨b,cap',cur,_,rfl,c,hc,hl,hm,by simpa using ht⟩
def Hot(B:Nat)(W:World)(b:Nat):Prop:=b=B\/(∃o,W.heap[b]?=some o/\o.isCells=false)\/∃v,Boxed W B 52 v/\v.ownBlock=some b
def ni(B:Nat)(W:World):Prop:=∀v c,Boxed W B 52 v->v.ownBlock=some c->c<W.heap.size
structure Kp(n₀ B:Nat)(W W':World):Prop where
 zj:Below n₀ W W'
 nj:∀b,b<W.heap.size->¬Hot B W b->W'.heap[b]?=W.heap[b]?/\¬Hot B W' b
 inb:ni B W->ni B W'
def Kp.trans{n₀ B:Nat}{W W' W2:World}(h:Kp n₀ B W W')(k:Kp n₀ B W' W2):Kp n₀ B W W2:=
 ⟨h.zj.trans k.zj,λb hb hn=>by obtain⟨p,q⟩:=h.nj b hb hn;obtain⟨r,t⟩:=k.nj b (Dm hb h.zj.size) q;exact⟨r.trans p,t⟩,λhi=>k.inb (h.inb hi)⟩
def IS{B:Nat}{W W':World}{t:TypeId}{v:Value}(h:W'.heap[B]?=W.heap[B]?):Boxed W' B t v↔Boxed W B t v:=by unfold Boxed;rw[h]
def Kp.GN{n₀ B:Nat}{W W':World}(hb:Below W.heap.size W W')(hn:n₀<=W.heap.size)(hB:B<W.heap.size):Kp n₀ B W W':=by
 have a:=hb.block B hB;refine⟨hb.mono hn,λb hlt hc=>⟨hb.block b hlt,λd=>hc ?_⟩,λhi v c hv hc=>Dm (hi v c ((IS a).1 hv) hc) hb.size⟩;rcases d with h|⟨o,h1,h2⟩|⟨v,h1,h2⟩
 .exact .inl h
 .exact .inr (.inl ⟨o,by rw[<-hb.block b hlt];exact h1,h2⟩)
 .exact .inr (.inr ⟨v,(IS a).1 h1,h2⟩)
def Kp.putObj{n₀ B:Nat}{W:World}{l:Nat}{o o':Obj}(hn:n₀<=l)(a:B≠l)(hl:W.heap[l]?=some o)(hc:o.isCells=false):Kp n₀ B W (W.putObj l o'):=by
 have hlt:l<W.heap.size:=(As.1 hl).1;have g:(W.putObj l o').heap[B]?=W.heap[B]?:=World.putObj_heap_other a;refine⟨(Below.refl n₀ W).grown (grownBy_putObj' W l o') Ab (λk e=>by cases e;omega),λb bY d=>?_,λhi v c hv hc=>?_⟩
 .have hne:b≠l:=λe=>d (.inr (.inl ⟨o,by rw[e];exact hl,hc⟩));have f:(W.putObj l o').heap[b]?=W.heap[b]?:=World.putObj_heap_other hne;refine⟨f,λxi=>d ?_⟩;rcases xi with h|⟨o,h1,h2⟩|⟨v,h1,h2⟩
  .exact .inl h
  .exact .inr (.inl ⟨o,by rw[<-f];exact h1,h2⟩)
  .exact .inr (.inr ⟨v,(IS g).1 h1,h2⟩)
 .have:=hi v c ((IS g).1 hv) hc;simpa using this
def mE(g:Nat)(w:World):Nat->Int->List Int->Prop
 |0,_,_=>False
 |f+1,x,l=>∃(ks:List Int) (m:Int->List Int),Ti g w x ks/\(∀y∈ks,mE g w f y (m y))/\l=ks.flatMap λy=>y::m y
def Rf{ks:List Int}{m:Int->List Int}{i:Nat}(hi:i<ks.length):(ks.take (i+1)).flatMap (λy=>y::m y)=(ks.take i).flatMap (λy=>y::m y)++[ks[i]]++m ks[i]:=by rw[AL hi,Ź];simp
def mF{ks:List Int}{m:Int->List Int}(i:Nat):((ks.take i).flatMap λy=>y::m y).length<=(ks.flatMap λy=>y::m y).length:=by
 conv=>rhs;rw[<-BY i ks,Ź,Ao]
 exact Ea _ _
def gV{g B lp n₀ N:Nat}{w0:World}(h0:n₀=w0.heap.size){J Jx:List Int->World->Prop}
  (u:∀Gi W W',J Gi W->Below W.heap.size W W'->J Gi W')
  (hY:∀Gi y W,J Gi W->Gi.length<N->YieldAt Fence.wide 0 Proofs.Tryz.prog lp #[.int .i64 y] W λe W'=>(e= .returned (.bool true)/\J (Gi++[y]) W'/\Kp n₀ B W W')\/(e= .returned (.bool false)/\Jx (Gi++[y]) W')):
  ∀(f:Nat) (x:Int) (l Gi:List Int) (W:World),mE g w0 f x l->Below n₀ w0 W->B<W.heap.size->ni B W->J Gi W->Gi.length+l.length<=N->
   Calls Proofs.Tryz.prog 87 #[.pointer (some ⟨g,0,none⟩),.int .i64 x,.func (.yield lp) #[] #[]] W λe W'=>(e= .returned (.bool true)/\J (Gi++l) W'/\Kp n₀ B W W')\/(e= .returned (.bool false)/\∃p,Jx p W')
 |0,_,_,_,_,hp,_,_,_,_,_=>hp.elim
 |f+1,x,l,Gi,W,hp,hb,hB,R5,hj,E=>by
  obtain⟨ks,m,hk,hm,rfl⟩:=hp;have ih:=gV (g:=g) (B:=B) (lp:=lp) (n₀:=n₀) (N:=N) (w0:=w0) h0 u hY f;subst h0;have XW:=Ti.below hb hk;refine(callsIn_wide (n:=5)).1 ?_;refine callsIn_of_wp Proofs.Tryz.func87 rfl trivial ?_ rfl;simp only[Proofs.Tryz.ntmps87,Bl,AH,Bd,Nat.reduceAdd,Nat.reduceSub,Dp,Dq,Er,DF,Bj,BW];gi_wp2
  refine⟨trivial,(callsIn_wide.2 (nh XW)).mono ?_⟩;rintro e W1 ⟨v,rfl,hs,b1⟩;have s:Kp w0.heap.size B W W1:=Kp.GN b1 hb.size hB;have C:=u _ _ _ hj b1;have hv:∃r a,v= .slice r ks.length a/\ks.length<=9223372036854775807/\∀i (hi:i<ks.length) (wr:World),Kp w0.heap.size B W1 wr->∃b,r=some ⟨b,0,none⟩/\wr.cell? ⟨b,i,none⟩=some (.int .i64 ks[i]):=by
   rcases hs with⟨rfl,rfl⟩|⟨b,cap,cur,t,rfl,yy,hc,hl,oQ,ht⟩
   .exact⟨none,0,rfl,Au,λi hi=>by simp at hi⟩
   .have my:b<W1.heap.size:=(As.1 hc).1;have q:¬Hot B W1 b:=by
     rintro(h|⟨o,h1,h2⟩|⟨v,h1,h2⟩);.omega
     .rw[hc] at h1;cases h1;cases h2
     .have:=R5 v b ((IS (b1.block B hB)).1 h1) h2;omega
    refine⟨some ⟨b,0,none⟩,cap,rfl,A5 hl (A5 oQ Be),λi hi wr hk=>⟨b,rfl,?_⟩⟩;obtain⟨e1,_⟩:=hk.nj b my q;exact Tj (e1.trans hc) ht hi
  obtain⟨r,a,rfl,wE,GC⟩:=hv;clear hs hk XW;gi_wp2
  gi_loopg [13] ks.length (λk v wr=>∃i,i<=ks.length/\k=ks.length-i/\v= .int .i64 (i:Nat)/\J (Gi++(ks.take i).flatMap (λy=>y::m y)) wr/\Kp w0.heap.size B W1 wr)
  case atStart=>exact⟨0,A8 _,rfl,rfl,by simpa using C,⟨Below.refl _ _,λb _ h=>⟨rfl,h⟩,id⟩⟩
  case round=>
   obtain⟨i,hi,rfl,rfl,d,ki⟩:=hrel;by_cases hlt:i<ks.length
   .obtain⟨b,rfl,D⟩:=GC i hlt wr ki;have zf:(i:Int)<(ks.length:Int):=by exact_mod_cast hlt
    have zg:=Ox i _ hlt wE;have Z7:=mF (ks:=ks) (m:=m) (i+1);rw[Rf hlt] at Z7;simp only[Ao,AH,Bd] at Z7;obtain⟨fn,tmps,assign,body,hy,hR⟩:=hY (Gi++(ks.take i).flatMap λy=>y::m y) ks[i] wr d (by rw[Ao];omega);have hR2:∀k,RoundIn Fence.wide k Proofs.Tryz.prog lp fn tmps assign body wr _:=λk=>⟨hR.1,λc cs _=>hR.2 c cs (room_wide _)⟩;gi_wp2
    refine(hR2 _).mono ?_;rintro e W3 (⟨rfl,A,k3⟩|⟨rfl,zk⟩)
    .have kk:=s.trans (ki.trans k3);have QZ:=ih ks[i] (m ks[i]) (Gi++(ks.take i).flatMap (λy=>y::m y)++[ks[i]]) W3 (hm _ (AX hlt)) (hb.trans kk.zj) (Dm hB kk.zj.size) (kk.inb R5) A (by simp only[Ao,AH,Bd];omega);gi_wp2
     refine⟨trivial,(callsIn_wide.2 QZ).mono ?_⟩;rintro e F (⟨rfl,z,w⟩|⟨rfl,j⟩)
     .gi_wp2
      gi_roundg (ks.length-(i+1))
      case measure=>exact Vc hlt (ID i)
      case rel=>
       refine⟨i+1,hlt,rfl,?_,?_,ki.trans (k3.trans w)⟩;.first|rfl|exact B1 (Value.int .i64) zg
       .rw[Rf hlt];simpa only[AI] using z
     .gi_wp2
      refine bodyPost_ret (results_tmp rfl _ _ _) rfl ?_;exact .inr ⟨rfl,j⟩
    .gi_wp2
     refine⟨trivial,?_⟩;gi_wp2
     refine bodyPost_ret (results_tmp rfl _ _ _) rfl ?_;exact .inr ⟨rfl,_,zk⟩
   .obtain rfl:i=ks.length:=oJ hi (fL hlt);rw[BZ] at d;gi_wp2
    refine bodyPost_ret (results_tmp rfl _ _ _) rfl ?_;exact .inl ⟨rfl,d,s.trans ki⟩
def xZ(g:Nat)(x:Int)(w:World):
  Calls Proofs.Tryz.prog 40 #[.pointer (some ⟨g,0,none⟩),.int .i64 x] w λe w'=>e= .returned (.func (.func 86) #[] #[.pointer (some ⟨w.heap.size,0,none⟩),.pointer (some ⟨w.heap.size+1,0,none⟩)])/\
   w'=(w.alloc (.cells #[.pointer (some ⟨g,0,none⟩)] 37)).alloc (.cells #[.int .i64 x] 3):=by
 have a:∀(fn:Fn) (first cap:Array Value) (w:World),(Instr.makeFunc fn first cap).run Proofs.Tryz.prog w= .ok (.func fn first cap) w:=λ_ _ _ _=>rfl;go_enter Proofs.Tryz.func40,Proofs.Tryz.ntmps40
 go_wp2
 go_ret
 exact⟨rfl,rfl⟩
def YQ{W W':World}(hb:Below W.heap.size W W'):W.grownBy W' none:=⟨hb.os,hb.tape,hb.output,hb.size,λk hk _=>hb.block k hk⟩
def YR{W:World}{b:Nat}{p:Addr}{v:Value}(h:b≠p.block):(W.setCell p v).heap[b]?=W.heap[b]?:=Below.heap_setCell _ _ _ b h
def zl(Kp:World->World->Prop)(I:List Int->World->Prop)(xs:List Int)(W:World):Exit->Act->World->Prop
 | .normal,_,W'=>KeepsOthers W W'/\Kp W W'/\I xs W'
 |_,_,_=>False
def WY{P:Program}{n gf N:Nat}{lb:Array Value}{g:Operand}{ps:Array Tmp}{assign body:Code}{Q:Exit->Act->World->Prop}{a:Act}{w:World}(l:List Int)(Kp:World->World->Prop)
  (hg:a.eval g= .func (.func gf) #[] lb) (i:∀args w,(callFunc gf args).run P w= .ok (.enter gf args) w)
  (bU:∀(lp:Nat) (J:List Int->World->Prop) (W:World),Below w.heap.size w W->(∀Gi A A',J Gi A->Below A.heap.size A A'->J Gi A')->
   (∀Gi y W1,J Gi W1->Gi.length<N->YieldAt Fence.wide (n-1 -1) P lp #[.int .i64 y] W1 λe W'=>e= .returned (.bool true)/\J (Gi++[y]) W'/\Kp W1 W')->J [] W->
   CallsIn Fence.wide (n-1) P gf (#[.func (.yield lp) #[] #[]]++lb) W λe W'=>(∃v,e= .returned v)/\J l W')
  (hKt:∀{A B C:World},Kp A B->Kp B C->Kp A C) (hKb:∀(W:World) (r:Nat) (o o':Obj),w.heap.size<=r->W.heap[r]?=some o->o.isCells=false->Kp W (W.putObj r o'))
  (qX:ps.size=1) (I:List Int->World->Prop) (hI:∀Gi A B row,I Gi A->A.grownBy B row->(∀r,row=some r->w.heap.size<=r/\∃o,A.heap[r]?=some o/\o.isCells=false)->I Gi B) (h0:I [] w) (a₁:Int->Act)
  (hassign:∀(lp:Nat) (x:Int) (W:World) (K:Act->World->Prop),K (a₁ x) W->
   assign.wpIn (Fence.wide.inRound lp) (n-1 -1) P (Exit.then K (λ_ _ _=>False)) {tmps:=(ps.zip #[.int .i64 x]).foldl (λt (p,v)=>t.setIfInBounds p v) a.tmps,defers:=[]} W)
  (M0:∀(lp:Nat) (Gi:List Int) (x:Int) (W:World),I Gi W->Gi.length<N->body.wpIn (Fence.wide.inRound lp) (n-1 -1) P (zl Kp I (Gi++[x]) W) (a₁ x) W)
  (Tf:∀(D:Nat) (W:World),I l W->W.heap[D]?=some (.deferred (some []))->w.heap.size<=D->Q .normal {a with defers:={target:= .collected D,args:=#[]}::a.defers} W):
  (Code.rangeFunc g ps assign body).wpIn Fence.wide n P Q a w:=by
 refine wpIn_rangeFunc ?_;intro fn qI;have hro:Fence.wide.round=none:=rfl;rw[hro];obtain⟨rec,LI⟩:∃rec:LoopState->Option Code->Loop,rec=λst h=>{state:=st,pending:=h,fn,tmps:=a.tmps,params:=ps,assign,body,defers:=w.heap.size}:=⟨_,rfl⟩;obtain⟨W1,b⟩:∃W1,(w.alloc (.deferred (some []))).alloc (.loop (rec .ready none))=W1:=⟨_,rfl⟩;have c:W1.heap[w.heap.size+1]?=some (.loop (rec .ready none)):=by rw[<-b];have:=World.alloc_heap_new (w.alloc (.deferred (some []))) (.loop (rec .ready none));rwa [World.size_alloc] at this
 have d:W1.heap[w.heap.size]?=some (.deferred (some [])):=by rw[<-b];exact(Below.heap_alloc _ _ _ Au).trans (World.alloc_heap_new w _)
 have f:I [] W1:=by rw[<-b];exact hI _ _ _ none (hI _ _ _ none h0 (World.grownBy_alloc _ _ none) nofun) (World.grownBy_alloc _ _ none) nofun
 have MI:Below w.heap.size w W1:=by rw[<-b];exact(((Below.refl _ w).alloc (Af _) _).alloc Au _)
 refine⟨w.heap.size+1,[{target:= .collected w.heap.size,args:=#[]}],W1,{target:= .fn (.func gf) lb,args:=#[.func (.yield (w.heap.size+1)) #[] #[]]},W1,gf,
  #[.func (.yield (w.heap.size+1)) #[] #[]]++lb,W1,?_,?_,?_,?_,nofun,?_⟩
 .rw[<-b,LI];exact run_enterLoop_outer _ _ _ _ _
 .simp only[resolve,hg];simp[go_sem]
 .intro f' oR;trivial
 .simp[invoke,go_sem,i]
 .refine(bU (w.heap.size+1)
   (λGi W=>I Gi W/\W.heap[w.heap.size+1]?=some (.loop (rec .ready none))/\W.heap[w.heap.size]?=some (.deferred (some [])))
   W1 MI
   (λGi A B hs hb=>⟨hI _ A B none hs.1 (YQ hb) nofun,(hb.block _ (As.1 hs.2.1).1).trans hs.2.1,(hb.block _ (As.1 hs.2.2).1).trans hs.2.2⟩)
   ?_ ⟨f,c,d⟩).mono ?_
  .rintro Gi x W ⟨hi,hl,hk⟩ hlen;have hlt:w.heap.size+1<W.heap.size:=(As.1 hl).1;have hy:=run_yield (P:=P) (args:=#[.int .i64 x]) hl (by rw[LI];exact qX.symm);rw[LI] at hy;refine⟨fn,_,assign,body,hy,roundIn_of_wpIn qI (hassign _ x W _ ⟨_,run_beginRound hl (by rw[LI]),?_⟩)⟩;have Z8:(W.putObj (w.heap.size+1) (.loop {rec .ready none with state:= .busy})).heap[w.heap.size+1]?=some (.loop {rec .ready none with state:= .busy}):=World.putObj_heap_same hlt;have RJ:(W.putObj (w.heap.size+1) (.loop {rec .ready none with state:= .busy})).heap[w.heap.size]?=some (.deferred (some [])):=(World.putObj_heap_other Ab).trans hk;have lT:Kp W (W.putObj (w.heap.size+1) (.loop {rec .ready none with state:= .busy})):=hKb _ _ _ _ Ab hl rfl;refine wpIn_mono (M0 _ Gi x _ (hI _ _ _ _ hi (grownBy_putObj' W _ _) (λr e=>by cases e;exact⟨Ab,_,hl,rfl⟩)) hlen) ?_;rintro e a3 W3 hp;cases e with
   |normal=>obtain⟨WS,mq,WQ⟩:=hp;have X3:=WS.same _ _ Z8 rfl;have hr:=run_endRound (P:=P) none X3;rw[LI] at hr X3;have vn:(W3.putObj (w.heap.size+1) (.loop (rec .ready none))).heap[w.heap.size+1]?=some (.loop (rec .ready none)):=World.putObj_heap_same (As.1 X3).1;have oT:(W3.putObj (w.heap.size+1) (.loop (rec .ready none))).heap[w.heap.size]?=some (.deferred (some [])):=(World.putObj_heap_other Ab).trans (WS.same _ _ RJ rfl);rw[LI] at vn oT;exact⟨_,_,hr,rfl,⟨hI _ _ _ _ WQ (grownBy_putObj' W3 _ _) (λr e=>by cases e;exact⟨Ab,_,X3,rfl⟩),by rw[LI];exact vn,oT⟩,hKt (hKt lT mq) (hKb _ _ _ _ Ab X3 rfl)⟩
   |ret=>exact hp.elim
   |exit id=>exact hp.elim
   |goto t=>exact hp.elim
   |panic ch=>exact hp.elim
   |outgrown=>exact hp.elim
  .rintro e W2 ⟨⟨v,rfl⟩,hi,hl,hk⟩;exact⟨none,_,by have:=run_endLoop (P:=P) hl (by rw[LI];simp);rw[LI] at this;exact this,Tf _ _ (hI _ _ _ _ hi (grownBy_putObj' W2 _ _) (λr e=>by cases e;exact⟨Ab,_,hl,rfl⟩)) ((World.putObj_heap_other Ab).trans hk) (Af _)⟩
def zm{g B n₀ N f n:Nat}{x:Int}{l:List Int}{w0 w:World}(h0:n₀=w0.heap.size)(hp:mE g w0 f x l)(i:l.length<=N)(hB:B<w.heap.size)(hb:Below n₀ w0 w)(gd:Boxed w B 52 (.slice none 0 0)){p q:Nat}
  (h1:w.cell? ⟨p,0,none⟩=some (.pointer (some ⟨g,0,none⟩))) (h2:w.cell? ⟨q,0,none⟩=some (.int .i64 x))
  (lp:Nat) (J:List Int->World->Prop) (W:World) (hW:Below w.heap.size w W) (j:∀Gi A A',J Gi A->Below A.heap.size A A'->J Gi A')
  (hY:∀Gi y W1,J Gi W1->Gi.length<N->YieldAt Fence.wide (n-1) Proofs.Tryz.prog lp #[.int .i64 y] W1 λe W'=>e= .returned (.bool true)/\J (Gi++[y]) W'/\Kp n₀ B W1 W') (hj:J [] W):
  CallsIn Fence.wide n Proofs.Tryz.prog 86 (#[.func (.yield lp) #[] #[]]++#[.pointer (some ⟨p,0,none⟩),.pointer (some ⟨q,0,none⟩)]) W λe W'=>(∃v,e= .returned v)/\J l W':=by
 have hv:=gV (g:=g) (B:=B) (lp:=lp) (n₀:=n₀) (N:=N) (w0:=w0) (J:=J) (Jx:=λ_ _=>False) h0 j (λGi y A b hlen=>by
   obtain⟨fn,tmps,assign,body,hy,hR⟩:=mD (k:=0) (hY Gi y A b hlen);exact⟨fn,tmps,assign,body,hy,hR.mono λe W' h=> .inl h⟩) f x l [] W hp (hb.trans (hW.mono (by rw[h0];exact(h0▸hb).size))) (Dm hB hW.size)
  (λv c hv hc=>by have Gv:=(IS (hW.block B hB)).1 hv;unfold Boxed at Gv gd;rw[gd] at Gv;cases Gv;cases hc) hj (by simpa using i)
 have c1:W.cell? ⟨p,0,none⟩=some (.pointer (some ⟨g,0,none⟩)):=by rw[BI (hW.block _ (Cr h1))];exact h1
 have c2:W.cell? ⟨q,0,none⟩=some (.int .i64 x):=by rw[BI (hW.block _ (Cr h2))];exact h2
 refine callsIn_of_wp Proofs.Tryz.func86 rfl trivial ?_ rfl;simp only[Proofs.Tryz.ntmps86,Bl,AH,Bd,Nat.reduceAdd,Nat.reduceSub,Dp,Dq,Er,DF,Bj,BW];gi_wp2
 refine⟨trivial,nofun,(callsIn_wide.2 hv).mono ?_⟩;rintro e o (⟨rfl,d,m⟩|⟨rfl,_,a⟩)
 .gi_wp2
  go_end0
  exact⟨⟨_,rfl⟩,d⟩
 .exact a.elim
def mG{n₀ B:Nat}{s:List Int}{A A':World}{row:Option Nat}(hg:A.grownBy A' row)(hr:∀r,row=some r->∃o,A.heap[r]?=some o/\o.isCells=false)(h:∃v,Boxed A B 52 v/\A.ownsRow n₀ 3 1 v s.length (s.map (Value.int .i64))/\ni B A):
  ∃v,Boxed A' B 52 v/\A'.ownsRow n₀ 3 1 v s.length (s.map (Value.int .i64))/\ni B A':=by
 obtain⟨v,h1,h2,d⟩:=h;obtain⟨v',b,a,_⟩:=holdsRow_own n₀ B 52 3 1 (λs:List Int=>s.length) (λs=>s.map (Value.int .i64)) (λ_ _=>True) s A A' row ⟨v,h1,h2,trivial⟩ hg hr;refine⟨v',b,a,λu c hu hc=>Dm ?_ hg.size⟩;have e:A'.heap[B]?=A.heap[B]?:=hg.block B h1.lt λe=>by obtain⟨o,ho,hc⟩:=hr B e.symm;rw[show A.heap[B]?=_ from h1] at ho;cases ho;cases hc
 exact d u c ((IS e).1 hu) hc
def yA{g f:Nat}{x:Int}{l:List Int}{w:World}{R1 R2:World->Prop}{S:World->World->Nat->World->Prop}(hl:l.length<=1000000000)
  (a:Calls Proofs.Tryz.prog 38 #[.pointer (some ⟨g,0,none⟩),.int .i64 (-1),.slice (some ⟨w.heap.size,0,none⟩) 1 1] (w.alloc (.cells #[.int .i64 x] 3)) λe W=>e= .returned (.int .i64 0)/\R1 W)
  (gg:∀W,R1 W->Calls Proofs.Tryz.prog 39 #[.pointer (some ⟨g,0,none⟩),.int .i64 x] W λe W'=>(∃v,e= .returned v)/\R2 W')
  (qO:∀W,R2 W->mE g W f x l)
  (L:∀W d,R2 W->Below W.heap.size W d->S W d 0 d)
  (hSk:∀W d i W' b,S W d i W'->W.heap.size<=b->b<d.heap.size->W'.heap[b]?=d.heap[b]?)
  (I:∀W d i W' (hi:i<l.length),S W d i W'->Calls Proofs.Tryz.prog 39 #[.pointer (some ⟨g,0,none⟩),.int .i64 l[i]] W' λe W2=>(∃v,e= .returned v)/\S W d (i+1) W2):
  Calls Proofs.Tryz.prog 15 #[.pointer (some ⟨g,0,none⟩),.int .i64 x] w λe w'=>e= .returned (.int .i64 0)/\
   ∃W d P D,R2 W/\S W d l.length P/\P.heap[D]?=some (.deferred (some []))/\W.heap.size<=D/\w'=P.putObj D (.deferred none):=by
 refine(callsIn_wide (n:=5)).1 ?_;refine callsIn_of_wp_marks Proofs.Tryz.func15 rfl trivial ?_;simp only[Proofs.Tryz.ntmps15,Bl,AH,Bd,Nat.reduceAdd,Nat.reduceSub,Dp,Dq,Er,DF,Bj,BW];gi_wp2
 refine⟨trivial,(callsIn_wide.2 a).mono ?_⟩;rintro e W1 ⟨rfl,T⟩;gi_wp2
 refine⟨trivial,(callsIn_wide.2 (gg _ T)).mono ?_⟩;rintro e W2 ⟨⟨v,rfl⟩,r2⟩;have hp:=qO _ r2;have V:=Gs W2 (.slice none 0 0) 52;have bB:=Boxed.new W2 52 (.slice none 0 0);gi_wp2
 refine⟨trivial,(callsIn_wide.2 (xZ g x _)).mono ?_⟩;rintro e w' ⟨rfl,rfl⟩;gi_wp2
 obtain⟨i0,yB,lE,q,p⟩:=info_parts Proofs.Tryz.Sa.i3;have yC:((((W2.alloc (.cells #[.slice none 0 0] 52)).alloc (.cells #[.pointer (some ⟨g,0,none⟩)] 37)).alloc (.cells #[.int .i64 x] 3))).heap.size=W2.heap.size+1+1+1:=Au;refine WY (gf:=86) (N:=l.length) (lb:=#[.pointer (some ⟨W2.heap.size+1,0,none⟩),.pointer (some ⟨W2.heap.size+1+1,0,none⟩)]) l (Kp W2.heap.size W2.heap.size) rfl (Go.Proofs.enters_of Proofs.Tryz.func86 AQ rfl)
  ?bU (λh1 h2=>h1.trans h2) ?hKb rfl
  (λs W=>Below W2.heap.size W2 W/\∃v,Boxed W W2.heap.size 52 v/\W.ownsRow W2.heap.size 3 1 v s.length (s.map (Value.int .i64))/\ni W2.heap.size W) ?hI ?h0
  (λy=>{tmps:=#[.pointer (some ⟨g,0,none⟩),.int .i64 x,undef,undef,.int .i64 0,.int .i64 0,.pointer (some ⟨W2.heap.size,0,none⟩),.int .i64 y,undef,undef,.pointer (some ⟨g,0,none⟩),.int .i64 x,.slice (some ⟨w.heap.size,0,none⟩) 1 1,.int .i64 0,.int .i64 0,.bool false,undef,.pointer (some ⟨g,0,none⟩),.int .i64 x,v,.pointer (some ⟨g,0,none⟩),.int .i64 x,.func (.func 86) #[] #[.pointer (some ⟨W2.heap.size+1,0,none⟩),.pointer (some ⟨W2.heap.size+1+1,0,none⟩)],.int .i64 y,undef,undef,undef,undef,undef,undef,undef,undef,undef,undef,undef,undef,undef,undef],defers:=[]})
  ?hassign ?M0 ?Tf
 case bU=>
  intro lp J W hW Y hY hj;refine zm (n₀:=W2.heap.size) (B:=W2.heap.size) (N:=l.length) (f:=f) (x:=x) (w0:=W2) (n:=4) rfl hp (Af _) (by rw[yC];omega) ((((Below.refl _ W2).alloc (Af _) _).alloc Au _).alloc D5 _) ((bB.alloc _).alloc _) ?_ ?_ lp J W hW Y hY hj;.exact Ce _ (by have:=Gs (W2.alloc (.cells #[.slice none 0 0] 52)) (.pointer (some ⟨g,0,none⟩)) 37;simpa only[World.size_alloc] using this.1)
  .have:=Gs ((W2.alloc (.cells #[.slice none 0 0] 52)).alloc (.cells #[.pointer (some ⟨g,0,none⟩)] 37)) (.int .i64 x) 3;simpa only[World.size_alloc] using this.1
 case hKb=>intro W r o o' hr ho hc;rw[yC] at hr;exact Kp.putObj Ab Ab ho hc
 case hI=>rintro s A A' row ⟨h1,h2⟩ hg hr;exact⟨h1.grown hg (h1.size) (λk e=>by have:=(hr k e).1;rw[yC] at this;omega),mG hg (λr e=>(hr r e).2) h2⟩
 case h0=>refine⟨(((Below.refl _ W2).alloc (Af _) _).alloc Au _).alloc D5 _,_,(bB.alloc _).alloc _,⟨rfl,.inl ⟨rfl,rfl⟩⟩,λu c hu hc=>?_⟩;have hb:=(bB.alloc (.cells #[.pointer (some ⟨g,0,none⟩)] 37)).alloc (.cells #[.int .i64 x] 3);unfold Boxed at hu hb;rw[hb] at hu;cases hu;cases hc
 case hassign=>
  intro lp y W K hK;have mv:=Oper.semAt_some lp;gi_wp2
  exact hK
 case M0=>
  rintro lp Gi y W ⟨hb,u,hu,hr,R5⟩ hlen;have mv:=Oper.semAt_some lp;have cB:=hu.cell;have H:W2.heap.size<=W.heap.size:=hb.size;gi_wp2_with (gi_at_builtin;refine wpListIn_append_own_at _ rfl _ _ 52 rfl W2.heap.size 3 i0 (.int .i64 0) 1 8 Proofs.Tryz.Sa.t22 yB lE q p rfl Be _ _ _ rfl (hr.alloc _) ⟨W.heap.size,0,none⟩ 1 1 [.int .i64 y] rfl rfl ?qc1 ?qc2 ?qc3 ?qc4 ?qc5 ?U)
  case qc1=>
   intro j z hj;match j,hj with
   |0,hj=>cases hj;exact(Gs W (.int .i64 y) 3).1
   |j+1,hj=>simp at hj
  case qc2=>intro z hz;rw[D2.1 hz];rfl
  case qc3=>unfold maxLen;omega
  case qc4=>omega
  case qc5=>simp;omega
  intro v' w1 hown hgrow hnil WG;obtain⟨Q,cap',rfl⟩:=ownsRow_succ hown;obtain⟨oO,SN,JT,F,zn⟩:=Boxed.appended hu Be hr H (Af _) hown hgrow;have cB1:=oO.cell;have fB1:=oO.frozen;gi_wp2
  have zo:ni W2.heap.size (w1.setCell ⟨W2.heap.size,0,none⟩ (.slice (some ⟨Q,0,none⟩) (Gi.length+1) cap')):=λu' c aO hc=>by unfold Boxed at aO SN;rw[SN] at aO;cases aO;exact(JT.lt c hc).2
  refine⟨F,⟨zn,λb hlt G=>?_,λ_=>zo⟩,hb.trans zn,_,SN,by simpa using JT,zo⟩;have hne:b≠W2.heap.size:=λe=>G (.inl e);have Qh:u.ownBlock≠some b:=λe=>G (.inr (.inr ⟨u,hu,e⟩));have e1:(w1.setCell ⟨W2.heap.size,0,none⟩ (.slice (some ⟨Q,0,none⟩) (Gi.length+1) cap')).heap[b]?=W.heap[b]?:=by rw[YR hne,hgrow.block b D5 (λe=>Qh e.symm)];exact Below.heap_alloc _ _ _ hlt
  refine⟨e1,?_⟩;rintro(h|⟨o,h1,h2⟩|⟨z,h1,h2⟩);.exact hne h
  .exact G (.inr (.inl ⟨o,by rw[<-e1];exact h1,h2⟩))
  .unfold Boxed at h1 SN;rw[SN] at h1;cases h1;rcases WG with WG|WG
   .exact Qh (WG.symm.trans h2)
   .rw[h2] at WG;have:=Da WG;have e2:(W.alloc (.cells #[.int .i64 y] 3)).heap.size=W.heap.size+1:=World.size_alloc _ _;omega
 case Tf=>
  rintro D W ⟨hb,u,hu,hr,R5⟩ hK Z;have cB:=hu.cell;rw[yC] at Z;have M:D<W.heap.size:=(As.1 hK).1;have hv:∃O m,u= .slice O l.length m/\∀i (hi:i<l.length) (j:Nat) (wr:World),S W2 W j wr->∃r,O=some ⟨r,0,none⟩/\wr.cell? ⟨r,i,none⟩=some (.int .i64 l[i]):=by
   obtain⟨Ij,⟨rfl,h0⟩|⟨r,cap,cur,rfl,yy,hc,wR,oQ,hsz,ht⟩⟩:=hr;.obtain rfl:=Cq h0;exact⟨none,0,rfl,λi hi=>by simp at hi⟩
   .refine⟨_,cap,rfl,λi hi j wr hS=>⟨r,rfl,?_⟩⟩;have e1:=hSk _ _ _ _ r hS yy (As.1 hc).1;exact Tj (e1.trans hc) (by simpa using ht) hi
  obtain⟨O,m,rfl,GC⟩:=hv;have E:=L _ _ r2 hb;have wE:l.length<=9223372036854775807:=Ab;clear hr R5 yB lE q p hp gg a qO V bB;gi_wp2
  gi_loopg [30] l.length (λk v wr=>∃i,i<=l.length/\k=l.length-i/\v= .int .i64 (i:Nat)/\S W2 W i wr)
  case atStart=>exact⟨0,A8 _,rfl,rfl,E⟩
  case round=>
   obtain⟨i,hi,rfl,rfl,C⟩:=hrel;by_cases hlt:i<l.length
   .obtain⟨r,rfl,X⟩:=GC i hlt i wr C;have zf:(i:Int)<(l.length:Int):=by exact_mod_cast hlt
    have zg:=Ox i _ hlt wE;have hj:=I _ _ _ _ hlt C;gi_wp2
    refine⟨trivial,(callsIn_wide.2 hj).mono ?_⟩;rintro e W7 ⟨⟨v,rfl⟩,R⟩;gi_wp2
    gi_roundg (l.length-(i+1))
    case measure=>exact Vc hlt (ID i)
    case rel=>refine⟨i+1,hlt,rfl,?_,R⟩;first|rfl|exact B1 (Value.int .i64) zg
   .obtain rfl:i=l.length:=oJ hi (fL hlt);have t:wr.heap[D]?=some (.deferred (some [])):=(hSk _ _ _ _ D C Ab M).trans hK;gi_wp2
    refine⟨nofun,.inl ⟨_,_,rfl,run_takeDeferred t,?_⟩⟩;refine⟨.int .i64 0,?_,rfl,W2,W,wr,D,r2,C,t,Ab,rfl⟩;simp[results,Proofs.Tryz.f15,go_sem]
end Go.Am
end
section
namespace Go.Am
open Go Go.RowKit Go.Shelf
section
variable{U:Gh}{h:Ag}{w:World}
def Pk{ks:List Aa}:∀{m o:Nat} {l:List Int},Kh ks o m=some l->l.length=m/\∀j,j<m->ks[o+j]?=some (.int .i64 (l.getD j 0))
 |0,o,l,e=>by cases e;exact⟨rfl,λj hj=>Ab⟩
 |m+1,o,l,e=>by
  unfold Kh at e;split at e
  .rename_i y hy;obtain⟨l',a,rfl⟩:=QL.1 e;obtain⟨p,q⟩:=Pk a;refine⟨by simp[p],λj hj=>?_⟩;cases j with
   |zero=>exact hy
   |succ j=>rw[(Ab:o+(j+1)=o+1+j)];exact q j Ab
  .cases e
def bZ(hi:Fg U h w){id g:Nat}(hm:U.mu id=some g){x:Int}{l:List Int}(e:Tc h id x=some l):Ti g w x l:=by
 unfold Tc at e;split at e
 .rename_i d off n l0 hc;split at e
  .rename_i cs hcs;split at e
   .rename_i hx;obtain⟨_,y,hy,gn,cap,rD,rfl,c,⟨t,b⟩,s⟩:=hi.N5 hc hm (j:=0) rfl;split at e;.rename_i h2;cases e;obtain⟨u,hu,_,hr⟩:=H5 hi hcs rD h2;cases hr;exact⟨gn,off,n,cap,hy,hx.1,hx.2,c,b,.inl ⟨hu,rfl⟩⟩
    .rename_i KU f m h2;obtain⟨u,hu,_,hr⟩:=H5 hi hcs rD h2;obtain⟨k,a,ő,rfl,r,⟨r2,q⟩,p⟩:=hr;split at e
     .rename_i ks qL;split at e;.rename_i i;obtain⟨hl,hg⟩:=Pk e;refine⟨gn,off,n,cap,hy,hx.1,hx.2,c,b,.inr ⟨k,f,a,by rw[hl];exact hu,Ab,λj hj=>?_⟩⟩;obtain⟨o,Ow,_,JT⟩:=H5 hi qL ő (hg j Ab);cases JT;exact Ow
      .cases e
     .cases e
    .cases e
   .cases e
  .cases e
 .cases e
def YS{f:Int->Option (List Int)}:∀{ks l:List Int},l8 f ks=some l->(∀y∈ks,(f y).isSome=true)/\l=ks.flatMap λy=>y::(f y).getD []
 |[],l,e=>by cases e;exact⟨λ_ h=>(by cases h),rfl⟩
 |y::ks,l,e=>by
  unfold l8 at e;split at e
  .rename_i a b h1 h2;cases e;obtain⟨p,q⟩:=YS h2;refine⟨λz hz=>?_,by rw[ZY,<-q,h1];rfl⟩;rcases Az.1 hz with rfl|hz
   .rw[h1];rfl
   .exact p z hz
  .cases e
def VF(hi:Fg U h w){id g:Nat}(hm:U.mu id=some g):∀{f:Nat} {x:Int} {l:List Int},Rc h id f x=some l->mE g w f x l
 |0,x,l,e=>by cases e
 |f+1,x,l,e=>by unfold Rc at e;obtain⟨ks,h1,h2⟩:=JQ.1 e;obtain⟨p,q⟩:=YS h2;refine⟨ks,λy=>(Rc h id f y).getD [],bZ hi hm h1,λy hy=>?_,q⟩;obtain⟨l',wR⟩:=Option.isSome_iff_exists.1 (p y hy);show mE g w f y ((Rc h id f y).getD []);rw[wR];exact VF hi hm wR
def VG{n:Nat}{a:Aa}{r:Aa}{h':Ag}:∀{l:List Int} {h:Ag},IT.step (BK cx) (IT.run (BK cx) n) (Ov 39 a (.ret .ret [.int .i64 0]) (l.map λy=>[.int .i64 y])) h=some (.ret,[r],h')->
  r= .int .i64 0/\∃f:Nat->Ag,f 0=h/\f l.length=h'/\∀i (hi:i<l.length),∃b,IT.run (BK cx) n (BK cx 39 [a,.int .i64 l[i]]) (f i)=some (.ret,[b],f (i+1))
 |[],h,e=>by simp only[De,Ov,IT.step,Bv,Jp,Ey,KB,PV] at e;obtain⟨rfl,rfl⟩:=e;exact⟨rfl,λ_=>h,rfl,rfl,λi hi=>by simp at hi⟩
 |y::l,h,e=>by
  simp only[AZ,Ov,IT.step] at e;cases e1:IT.run (BK cx) n (BK cx 39 [a,.int .i64 y]) h with
  |none=>simp[e1] at e
  |some R=>
   simp only[e1] at e;split at e
   .rename_i b h1 Hy;cases Hy;obtain⟨p,f,f0,f1,f2⟩:=VG e;refine⟨p,λ|0=>h|i+1=>f i,rfl,f1,λi hi=>?_⟩;cases i with
    |zero=>exact⟨b,by simpa[f0] using e1⟩
    |succ i=>exact f2 i (by simpa using hi)
   .cases e
def Fg.cA(hi:Fg U h w){D:Nat}{ds:Option (List Deferred)}{o':Obj}(a:w.heap[D]?=some (.deferred ds)):Fg U h (w.putObj D o'):=by
 have ne:∀{b:Nat} {us:Array Value} {e:TypeId} {fr:Nat×Nat},w.heap[b]?=some (.cells us e fr)->b≠D:=λhb e=>by rw[e,a] at hb;cases hb
 have oth:∀{b:Nat},b≠D->(w.putObj D o').heap[b]?=w.heap[b]?:=λhne=>World.putObj_heap_other hne;refine⟨λb o v hv=>?_,hi.Kd,λid cs hc b hm=>?_,λid es hc b hm=>?_,hi.mu,λb x hx=>by have:=hi.Bn b x hx;simpa using this,λb n hn=>?_⟩
 .obtain⟨p,q,r⟩:=hi.GA b o v hv;refine⟨?_,q,r⟩;rw[BI (oth λe=>?_)];.exact p
  .subst e;simp[World.cell?,a] at p
 .obtain⟨us,e,fr,p,q⟩:=hi.cells id cs hc b hm;exact⟨us,e,fr,by rw[oth (ne p)];exact p,q⟩
 .obtain⟨C3,clock,p,q⟩:=hi.map id es hc b hm;exact⟨C3,clock,by rw[oth (λe=>by rw[e,a] at p;cases p)];exact p,q⟩
 .obtain⟨⟨us,e,fr,p,q⟩,r⟩:=hi.sz b n hn;exact⟨⟨us,e,fr,by rw[oth (ne p)];exact p,q⟩,r⟩
def IB.cA{a:Gh}{w':World}(ha:IB U w a w'){D:Nat}{o':Obj}(c:w.heap.size<=D):IB U w a (w'.putObj D o'):=
 ⟨ha.le,by simpa using ha.size,ha.os,ha.tape,ha.output,λb hb hn=>⟨(World.putObj_heap_other Ab).trans (ha.KF b hb hn).1,(ha.KF b hb hn).2⟩⟩
def IB.aA0{a:Gh}{w':World}{b:Nat}{w0:World}(ha:IB U w a w')(hi:Fg U h w0)(h1:w0.heap.size<=b)(h2:b<w.heap.size):w'.heap[b]?=w.heap[b]?:=
 (ha.KF b h2 λid e=>by have:=hi.Bn b _ e;omega).1
def nl(U:Gh)(b:Nat)(x:Int)(hb:U.GA b 0=some (.int .i64 x)):Bp U (.sl 1 [[.int .i64 x]]) (.slice (some ⟨b,0,none⟩) 1 1):=
 ⟨⟨b,0,none⟩,1,rfl,by simp[maxLen],.inl rfl,⟨rfl,⟨⟨_,hb,rfl⟩,trivial⟩,trivial⟩⟩
def yD(n:Nat)(hs:DO cx (IT.run (BK cx) n))(args:List Aa)(r:Aa)(h':Ag)(Ay:IT.step (BK cx) (IT.run (BK cx) n) (Ki 38 39 args) h=some (.ret,[r],h')):
  (∃fn c,cx.P.funcs[DE 15]?=some fn/\(fn.name== "runtime.NumGoroutine")=false/\fn.body=some c)/\
  ∀(U:Gh) (w:World) (cargs:Array Value),Fg U h w->(∀g cs,cx.Fl g=some cs->Co U cs g 0)->AK U args cargs.toList->
   Calls cx.P (DE 15) cargs w λe w'=>match e with
    | .returned v=>∃m,Fg m h' w'/\IB U w m w'/\Bp m r v/\(cx.HP 15=true->∃s c,Hq m w.heap.size w' s c v r)
    |_=>False:=by
 refine⟨⟨_,_,Proofs.Tryz.func15,rfl,rfl⟩,λU w cargs hi hg ha=>?_⟩;unfold Ki at Ay;split at Ay
 .rename_i a0 q;simp only[IT.step] at Ay;cases e1:IT.run (BK cx) n (BK cx 38 [a0,.int .i64 (-1),.sl 1 [[q]]]) h with
  |none=>simp[e1] at Ay
  |some R1=>
  simp only[e1] at Ay;split at Ay
  .rename_i I h1 Hy;cases Hy;split at Ay
   .rename_i MI;have MI:=Aa.Qj MI;subst MI;cases y:IT.run (BK cx) n (BK cx 39 [a0,q]) h1 with
    |none=>simp[y] at Ay
    |some R2=>
    simp only[y] at Ay;split at Ay
    .rename_i r2 h2 Hy;cases Hy;simp only[D4] at Ay;cases d:rG h2 [a0,q] with
     |none=>simp[d] at Ay
     |some F=>
     obtain⟨J,H⟩:=F;simp only[d] at Ay;unfold rG at d;split at d
     .rename_i id x Hy;cases Hy;split at d
      .rename_i A off z l0 hc;split at d
       .rename_i l hl;split at d
        .rename_i Z4;cases d;simp only at Ay;obtain⟨rfl,fh,f0,f1,f2⟩:=VG Ay;obtain⟨v0,us,wC,⟨g,hm,rfl⟩,G,k_,rfl,rfl,hnil⟩:=ha;cases hnil;have j:cargs=#[.pointer (some ⟨g,0,none⟩),.int .i64 x]:=by apply Fe;simpa using wC
         subst j;obtain⟨oS,bO⟩:=KO hi #[.int .i64 x] 3 (0,0) 1 none (λo u ho hu=>by obtain rfl:o=0:=Ab;cases hu;rfl) (.inl rfl)
         have hg1:∀{m:Gh},U.le m->∀g cs,cx.Fl g=some cs->Co m cs g 0:=λDG g cs wA=>Co.mono DG cs g 0 (hg g cs wA);refine(yA (g:=g) (f:=z+1) (x:=x) (l:=l) (w:=w) (R1:=λW=>∃a,Fg a h1 W/\IB U w a W) (R2:=λW=>∃a,Fg a h2 W/\IB U w a W)
          (S:=λW p i W'=>∃a,Fg a h2 W/\IB U w a W/\Below W.heap.size W p/\∃k,Fg k (fh i) W'/\IB a p k W') Z4 ?_ ?_ ?_ ?_ ?_ ?_).mono ?_
         .refine((hs.2 38 _ _ _ _ e1).2 _ _ #[.pointer (some ⟨g,0,none⟩),.int .i64 (-1),.slice (some ⟨w.heap.size,0,none⟩) 1 1] oS (hg1 bO.le) ⟨_,_,rfl,⟨g,bO.le.mu _ _ hm,rfl⟩,_,_,rfl,rfl,_,_,rfl,nl _ _ _ (by simp[Gh.CC]),rfl⟩).mono λe w' he=>?_;cases e with
          |returned v=>obtain⟨a,NR,KI,hv,_⟩:=he;cases hv;exact⟨rfl,a,NR,bO.trans KI⟩
          |_=>exact he.elim
         .rintro W ⟨a,NR,KI⟩;refine((hs.2 39 _ _ _ _ y).2 a W #[.pointer (some ⟨g,0,none⟩),.int .i64 x] NR (hg1 KI.le) ⟨_,_,rfl,⟨g,KI.le.mu _ _ hm,rfl⟩,_,_,rfl,rfl,rfl⟩).mono λe w' he=>?_;cases e with
          |returned v=>obtain⟨k,WQ,UG,hv,_⟩:=he;exact⟨⟨v,rfl⟩,k,WQ,KI.trans UG⟩
          |_=>exact he.elim
         .rintro W ⟨a,NR,KI⟩;exact VF NR (KI.le.mu _ _ hm) hl
         .rintro W p ⟨a,NR,KI⟩ hb;obtain⟨WQ,_⟩:=NR.GN hb;exact⟨a,NR,KI,hb,a,by rw[f0];exact WQ,.refl _ _⟩
         .rintro W p i W' b ⟨a,NR,KI,hb,k,WQ,UG⟩ MI M4;exact UG.aA0 NR MI M4
         .rintro W p i W' lM ⟨a,NR,KI,hb,k,WQ,UG⟩;obtain⟨rr,C⟩:=f2 i lM;refine((hs.2 39 _ _ _ _ C).2 k W' #[.pointer (some ⟨g,0,none⟩),.int .i64 l[i]] WQ (hg1 (KI.le.trans UG.le)) ⟨_,_,rfl,⟨g,(KI.le.trans UG.le).mu _ _ hm,rfl⟩,_,_,rfl,rfl,rfl⟩).mono λe w' he=>?_;cases e with
          |returned v=>obtain⟨E,t,zb,hv,_⟩:=he;exact⟨⟨v,rfl⟩,a,NR,KI,hb,E,t,UG.trans zb⟩
          |_=>exact he.elim
         .rintro e w' ⟨rfl,W,p,K,D,_,⟨a,NR,KI,hb,k,WQ,UG⟩,hK,B,rfl⟩;obtain⟨_,oV⟩:=NR.GN hb;rw[f1] at WQ;exact⟨k,WQ.cA hK,((KI.trans oV).trans UG).cA (A5 KI.size B),rfl,λe=>by cases e⟩
        .cases d
       .cases d
      .cases d
     .cases d
    .cases Ay
   .cases Ay
  .cases Ay
 .cases Ay
end
end Go.Am
end
section
namespace Go.Am
open Go
def yE:WH cx:=by
 refine⟨λf hf=>?_,λf p hp n hs args h r h' Ay=>?_⟩
 .simp only[cx,yo] at hf;split at hf;.exact mB
  .cases hf
 .simp only[cx,fu] at hp;split at hp;.cases hp;exact yD n hs args r h' Ay
  .cases hp;exact ng n hs args r h' Ay
  .cases hp;exact xW n args r h' Ay
  .cases hp;exact xV n hs args r h' Ay
  .cases hp
end Go.Am
end
