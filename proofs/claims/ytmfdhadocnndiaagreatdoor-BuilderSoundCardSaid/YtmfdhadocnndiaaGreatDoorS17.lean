/- Lemmas -/
import Derived.Test.YtmfdhadocnndiaaGreatDoorS16
import Derived.Maps.OwnIn
set_option linter.all false
set_option maxHeartbeats 0
set_option maxRecDepth 100000
section
namespace Go.Am
open Go Go.RowKit Go.Shelf
def Xe{W W':World}(hb:Below W.heap.size W W'):W.grownBy W' none:=⟨hb.os,hb.tape,hb.output,hb.size,λk hk _=>hb.block k hk⟩
def jn{U:Type}(a:World->World->Prop)(I:List U->World->Prop)(xs:List U)(W:World):Exit->Act->World->Prop
 | .normal,_,W'=>KeepsOthers W W'/\a W W'/\I xs W'
 |_,_,_=>False
def Xf{U:Type}{P:Program}{n gf N:Nat}{lb:Array Value}{g:Operand}{ps:Array Tmp}{assign body:Code}{Q:Exit->Act->World->Prop}{a:Act}{w:World}(encs:U->Array Value)(l:List U)(c:World->World->Prop)
  (hg:a.eval g= .func (.func gf) #[] lb) (k:∀args w,(callFunc gf args).run P w= .ok (.enter gf args) w)
  (cO:∀(d:Nat) (J:List U->World->Prop) (W:World),Below w.heap.size w W->(∀pre A A',J pre A->Below A.heap.size A A'->J pre A')->
   (∀pre y W1,J pre W1->pre.length<N->YieldAt Fence.wide (n-1 -1) P d (encs y) W1 λe W'=>e= .returned (.bool true)/\J (pre++[y]) W'/\c W1 W')->J [] W->
   CallsIn Fence.wide (n-1) P gf (#[.func (.yield d) #[] #[]]++lb) W λe W'=>(∃v,e= .returned v)/\J l W')
  (hKt:∀{A B C:World},c A B->c B C->c A C) (hKb:∀(W:World) (r:Nat) (o o':Obj),w.heap.size<=r->W.heap[r]?=some o->o.isCells=false->c W (W.putObj r o'))
  (nG:∀x,(encs x).size=ps.size) (I:List U->World->Prop) (hI:∀pre A B row,I pre A->A.grownBy B row->(∀r,row=some r->w.heap.size<=r/\∃o,A.heap[r]?=some o/\o.isCells=false)->I pre B) (h0:I [] w) (a₁:U->Act)
  (hassign:∀(d:Nat) (x:U) (W:World) (K:Act->World->Prop),K (a₁ x) W->
   assign.wpIn (Fence.wide.inRound d) (n-1 -1) P (Exit.then K (λ_ _ _=>False)) {tmps:=(ps.zip (encs x)).foldl (λt (p,v)=>t.setIfInBounds p v) a.tmps,defers:=[]} W)
  (Nf:∀(d:Nat) (pre:List U) (x:U) (W:World),I pre W->pre.length<N->body.wpIn (Fence.wide.inRound d) (n-1 -1) P (jn c I (pre++[x]) W) (a₁ x) W)
  (Tu:∀(D:Nat) (W:World),I l W->W.heap[D]?=some (.deferred (some []))->w.heap.size<=D->Q .normal {a with defers:={target:= .collected D,args:=#[]}::a.defers} W):
  (Code.rangeFunc g ps assign body).wpIn Fence.wide n P Q a w:=by
 refine wpIn_rangeFunc ?_;intro fn rV;have hro:Fence.wide.round=none:=rfl;rw[hro];obtain⟨rec,LO⟩:∃rec:LoopState->Option Code->Loop,rec=λst j=>{state:=st,pending:=j,fn,tmps:=a.tmps,params:=ps,assign,body,defers:=w.heap.size}:=⟨_,rfl⟩;obtain⟨W1,b⟩:∃W1,(w.alloc (.deferred (some []))).alloc (.loop (rec .ready none))=W1:=⟨_,rfl⟩;have f:W1.heap[w.heap.size+1]?=some (.loop (rec .ready none)):=by rw[<-b];have:=World.alloc_heap_new (w.alloc (.deferred (some []))) (.loop (rec .ready none));rwa [World.size_alloc] at this
 have h:W1.heap[w.heap.size]?=some (.deferred (some [])):=by rw[<-b];exact(Below.heap_alloc _ _ _ Av).trans (World.alloc_heap_new w _)
 have i:I [] W1:=by rw[<-b];exact hI _ _ _ none (hI _ _ _ none h0 (World.grownBy_alloc _ _ none) nofun) (World.grownBy_alloc _ _ none) nofun
 have O8:Below w.heap.size w W1:=by rw[<-b];exact(((Below.refl _ w).alloc (Ae _) _).alloc Av _)
 refine⟨w.heap.size+1,[{target:= .collected w.heap.size,args:=#[]}],W1,{target:= .fn (.func gf) lb,args:=#[.func (.yield (w.heap.size+1)) #[] #[]]},W1,gf,
  #[.func (.yield (w.heap.size+1)) #[] #[]]++lb,W1,?_,?_,?_,?_,nofun,?_⟩
 .rw[<-b,LO];exact run_enterLoop_outer _ _ _ _ _
 .simp only[resolve,hg];simp[go_sem]
 .intro f' Ye;trivial
 .simp[invoke,go_sem,k]
 .refine(cO (w.heap.size+1)
   (λpre W=>I pre W/\W.heap[w.heap.size+1]?=some (.loop (rec .ready none))/\W.heap[w.heap.size]?=some (.deferred (some [])))
   W1 O8
   (λpre A B hs hb=>⟨hI _ A B none hs.1 (Xe hb) nofun,(hb.block _ (Aq.1 hs.2.1).1).trans hs.2.1,(hb.block _ (Aq.1 hs.2.2).1).trans hs.2.2⟩)
   ?_ ⟨i,f,h⟩).mono ?_
  .rintro pre x W ⟨hi,hl,hk⟩ hlen;have hlt:w.heap.size+1<W.heap.size:=(Aq.1 hl).1;have hy:=run_yield (P:=P) (args:=(encs x)) hl (by rw[LO];exact nG x);rw[LO] at hy;refine⟨fn,_,assign,body,hy,roundIn_of_wpIn rV (hassign _ x W _ ⟨_,run_beginRound hl (by rw[LO]),?_⟩)⟩;have Yi:(W.putObj (w.heap.size+1) (.loop {rec .ready none with state:= .busy})).heap[w.heap.size+1]?=some (.loop {rec .ready none with state:= .busy}):=World.putObj_heap_same hlt;have O7:(W.putObj (w.heap.size+1) (.loop {rec .ready none with state:= .busy})).heap[w.heap.size]?=some (.deferred (some [])):=(World.putObj_heap_other Ab).trans hk;have nK:c W (W.putObj (w.heap.size+1) (.loop {rec .ready none with state:= .busy})):=hKb _ _ _ _ Ab hl rfl;refine wpIn_mono (Nf _ pre x _ (hI _ _ _ _ hi (grownBy_putObj' W _ _) (λr e=>by cases e;exact⟨Ab,_,hl,rfl⟩)) hlen) ?_;rintro e a3 W3 hp;cases e with
   |normal=>obtain⟨Tt,py,ak⟩:=hp;have VO:=Tt.same _ _ Yi rfl;have hr:=run_endRound (P:=P) none VO;rw[LO] at hr VO;have zu:(W3.putObj (w.heap.size+1) (.loop (rec .ready none))).heap[w.heap.size+1]?=some (.loop (rec .ready none)):=World.putObj_heap_same (Aq.1 VO).1;have qH:(W3.putObj (w.heap.size+1) (.loop (rec .ready none))).heap[w.heap.size]?=some (.deferred (some [])):=(World.putObj_heap_other Ab).trans (Tt.same _ _ O7 rfl);rw[LO] at zu qH;exact⟨_,_,hr,rfl,⟨hI _ _ _ _ ak (grownBy_putObj' W3 _ _) (λr e=>by cases e;exact⟨Ab,_,VO,rfl⟩),by rw[LO];exact zu,qH⟩,hKt (hKt nK py) (hKb _ _ _ _ Ab VO rfl)⟩
   |ret=>exact hp.elim
   |exit id=>exact hp.elim
   |goto t=>exact hp.elim
   |panic q=>exact hp.elim
   |outgrown=>exact hp.elim
  .rintro e m ⟨⟨v,rfl⟩,hi,hl,hk⟩;exact⟨none,_,by have:=run_endLoop (P:=P) hl (by rw[LO];simp);rw[LO] at this;exact this,Tu _ _ (hI _ _ _ _ hi (grownBy_putObj' m _ _) (λr e=>by cases e;exact⟨Ab,_,hl,rfl⟩)) ((World.putObj_heap_other Ab).trans hk) (Ae _)⟩
section
variable{Af:List (List Aa)}{x y:Int}{f:Nat}
def OO(hx:x≠0)(h:Hb Af f x=true):∃f' y,f=f'+1/\WX Af x=some y/\Hb Af f' y=true:=by
 cases f with
 |zero=>
  rw[Hb] at h;. cases h
  .exact λe=>hx e
 |succ f=>
  rw[Hb] at h
  .split at h;.rename_i y hy;exact⟨f,y,rfl,hy,h⟩
   .cases h
  .exact λe=>hx e
def Xg(Af:List (List Aa))(x:Int):Nat:=((List.range (Af.length+2)).find? λf=>Hb Af f x).getD 0
def NU(h:Hb Af f x=true)(hf:f<Af.length+2):Hb Af (Xg Af x) x=true/\Xg Af x<=f:=by
 unfold Xg;cases e:(List.range (Af.length+2)).find? λf=>Hb Af f x with
 |none=>have:=HG.1 e f (KH.2 hf);exact absurd h this
 |some i=>
  obtain⟨h1,h2,h3⟩:=List.find?_range_eq_some.1 e;refine⟨h1,?_⟩;rcases A8 f i with hl|hl
  .have:=h3 f hl;rw[h] at this;cases this
  .exact hl
def qj(h:WX Af x=some y):1<=x/\x<=(Af.length:Int):=by
 unfold WX at h;split at h;.assumption
 .cases h
def tK(h:Hb Af (Af.length+1) x=true)(hx:x≠0):∃y,WX Af x=some y/\(y=0\/((1<=y/\y<=(Af.length:Int))/\Xg Af y<Xg Af x)):=by
 obtain⟨h1,h2⟩:=NU h Ab;obtain⟨f',y,e,hy,hc⟩:=OO hx h1;refine⟨y,hy,?_⟩;by_cases a:y=0;.exact .inl a
 .obtain⟨_,z,_,hz,_⟩:=OO a hc;have:=(NU hc Ab).2;exact .inr ⟨qj hz,Ab⟩
def ay(h:WX Af x=some y):∃r p q,Af[(x-1).toNat]?=some r/\r[1]?=some (.int .i64 p)/\r[12]?=some (.int .i64 q)/\y=if p=0 then q else p:=by
 unfold WX at h;split at h
 .obtain⟨r,hr,h⟩:=J2.1 h;unfold jg at h;split at h;.rename_i p q h1 h2;cases h;exact⟨r,p,q,hr,h1,h2,rfl⟩
  .cases h
 .cases h
def Y8{h h1:Ah}{args:List Aa}{r:Aa}(e:NS h args=some (h1,r)):∃Af,args=[.sl 13 Af]/\h1=h/\r= .bool true/\Af.length<=1000000000/\∀x:Int,1<=x->x<=(Af.length:Int)->Hb Af (Af.length+1) x=true:=by
 unfold NS at e;split at e
 .rename_i Af;split at e;.rename_i hc;cases e;simp only[Bf,C6,Dq,KH] at hc;refine⟨Af,rfl,rfl,rfl,hc.1,λx h1 h2=>?_⟩;have:=hc.2 (x.toNat-1) Ab;rwa [(Ab:(((x.toNat-1:Nat):Int)+1)=x)] at this
  .cases e
 .cases e
end
def Yj(W:World)(S n:Nat)(st:Nat->Int):Prop:=∃cur,W.heap[S]?=some (.cells cur 3 (0,0))/\cur.size=n+1/\∀j,j<=n->cur[j]?=some (.int .i64 (st j))
def Yj.lt{W:World}{S n:Nat}{st:Nat->Int}(h:Yj W S n st):S<W.heap.size:=by obtain⟨cur,h1,_⟩:=h;exact(Aq.1 h1).1
def Yj.cell{W:World}{S n:Nat}{st:Nat->Int}(h:Yj W S n st){j:Nat}(hj:j<=n):W.cell? ⟨S,j,none⟩=some (.int .i64 (st j)):=by obtain⟨cur,h1,h2,h3⟩:=h;simp[World.cell?,h1,h3 j hj]
def Yj.frozen{W:World}{S n:Nat}{st:Nat->Int}(h:Yj W S n st)(j:Nat):W.frozen? ⟨S,j,none⟩=false:=by obtain⟨cur,h1,_⟩:=h;simp[World.frozen?,h1]
def Yj.Iy{W W':World}{S n:Nat}{st:Nat->Int}(h:Yj W S n st)(e:W'.heap[S]?=W.heap[S]?):Yj W' S n st:=by obtain⟨cur,h1,h2⟩:=h;exact⟨cur,e.trans h1,h2⟩
def Yj.set{W:World}{S n:Nat}{st:Nat->Int}(h:Yj W S n st){j:Nat}(hj:j<=n)(v:Int):Yj (W.setCell ⟨S,j,none⟩ (.int .i64 v)) S n (λk=>if k=j then v else st k):=by
 obtain⟨cur,h1,h2,h3⟩:=h;obtain⟨hlt,hk⟩:=Aq.1 h1;refine⟨cur.setIfInBounds j (.int .i64 v),?_,by simp[h2],λk hk=>?_⟩;.show(W.heap.modify S _)[S]?=_;rw[B9 (by rw[Array.size_modify];exact hlt),Array.getElem_modify_self,hk];simp
 .rw[qA];by_cases e:k=j;.subst e;simp[(Ab:k<cur.size)]
  .rw[Ac (λa=>e a.symm)];show cur[k]?=some (.int .i64 (if k=j then v else st k));rw[Ac e];exact h3 k hk
def RB{n:Nat}{P:Program}{fn:Func}{tmps:Array Value}{R:Ending->World->Prop}{Z:World->Prop}{lo:Nat}(a:∀w,Z w->LeavesIn Fence.wide n P fn tmps R [] .returning w)(hp:∀(w:World) (D:Nat),Z w->lo<=D->w.heap[D]?=some (.deferred (some []))->Z (w.putObj D (.deferred none))):
  ∀(Ds:List Nat) (w:World),Ds.Nodup->(∀D∈Ds,lo<=D/\w.heap[D]?=some (.deferred (some [])))->Z w->LeavesInM Fence.wide n P fn tmps R (Ds.map λD=>{target:= .collected D,args:=#[]}) .returning w
 |[],w,_,_,hz=>a w hz
 |D::Ds,w,hn,hd,hz=>by obtain⟨d,c⟩:=BC.1 hn;obtain⟨zr,b⟩:=hd D Av;refine⟨nofun,.inl ⟨D,_,rfl,run_takeDeferred b,?_⟩⟩;refine RB a hp Ds _ c (λE hE=>⟨(hd E (IM _ hE)).1,?_⟩) (hp w D hz zr b);rw[World.putObj_heap_other (λe=>d (by rw[<-e];exact hE))];exact(hd E (IM _ hE)).2
def Xh{U:Type}{P:Program}{n gf N:Nat}{lb:Array Value}{g:Operand}{ps:Array Tmp}{assign body:Code}{Q:Exit->Act->World->Prop}{a:Act}{w:World}(d:Array Value->U->Array Value)(encs:U->Array Value)(l:List U)(b:World->World->Prop)
  (hg:a.eval g= .func (.func gf) #[] lb) (f:∀args w,(callFunc gf args).run P w= .ok (.enter gf args) w)
  (cO:∀(c:Nat) (J:List U->World->Prop) (W:World),Below w.heap.size w W->(∀pre A A',J pre A->Below A.heap.size A A'->J pre A')->
   (∀pre y W1,J pre W1->pre.length<N->YieldAt Fence.wide (n-1 -1) P c (encs y) W1 λe W'=>e= .returned (.bool true)/\J (pre++[y]) W'/\b W1 W')->J [] W->
   CallsIn Fence.wide (n-1) P gf (#[.func (.yield c) #[] #[]]++lb) W λe W'=>(∃v,e= .returned v)/\J l W')
  (hKt:∀{A B C:World},b A B->b B C->b A C) (hKb:∀(W:World) (r:Nat) (o o':Obj),w.heap.size<=r->W.heap[r]?=some o->o.isCells=false->b W (W.putObj r o'))
  (nG:∀x,(encs x).size=ps.size) (I:List U->World->Prop) (hI:∀pre A B row,I pre A->A.grownBy B row->(∀r,row=some r->w.heap.size<=r/\∃o,A.heap[r]?=some o/\o.isCells=false)->I pre B) (h0:I [] w)
  (hassign:∀(c:Nat) (x:U) (W:World) (K:Act->World->Prop),K {tmps:=d a.tmps x,defers:=[]} W->
   assign.wpIn (Fence.wide.inRound c) (n-1 -1) P (Exit.then K (λ_ _ _=>False)) {tmps:=(ps.zip (encs x)).foldl (λt (p,v)=>t.setIfInBounds p v) a.tmps,defers:=[]} W)
  (Nf:∀(c:Nat) (pre:List U) (x:U) (W:World),I pre W->pre.length<N->body.wpIn (Fence.wide.inRound c) (n-1 -1) P (jn b I (pre++[x]) W) {tmps:=d a.tmps x,defers:=[]} W)
  (Tu:∀(D:Nat) (W:World),I l W->W.heap[D]?=some (.deferred (some []))->w.heap.size<=D->Q .normal {a with defers:={target:= .collected D,args:=#[]}::a.defers} W):
  (Code.rangeFunc g ps assign body).wpIn Fence.wide n P Q a w:=
 Xf encs l b hg f cO hKt hKb nG I hI h0 (λx=>{tmps:=d a.tmps x,defers:=[]}) hassign Nf Tu
def UR(W:World)(p:Addr)(v:Value):W.grownBy (W.setCell p v) (some p.block):=
 ⟨rfl,rfl,rfl,(KeepsWalks.setCell W _ v).size,λk _ hk=>Below.heap_setCell _ _ _ k (λe=>hk (by rw[e]))⟩
def Y9(ao:Option Addr)(l c:Nat)(w:World):
  Calls Proofs.Tryz.prog 108 #[.slice ao l c] w λe w'=>e= .returned (.func (.func 159) #[] #[.pointer (some ⟨w.heap.size,0,none⟩)])/\w'=w.alloc (.cells #[.slice ao l c] 56):=by
 have a:∀(fn:Fn) (first cap:Array Value) (w:World),(Instr.makeFunc fn first cap).run Proofs.Tryz.prog w= .ok (.func fn first cap) w:=λ_ _ _ _=>rfl;go_enter Proofs.Tryz.func108,Proofs.Tryz.ntmps108
 go_wp2
 go_ret
 exact⟨rfl,rfl⟩
def jo{n:Nat}(hn:n<=1000000000)(w:World):(Instr.makeSlice 56 (.int .i64 ((n:Int)+1)) (.int .i64 ((n:Int)+1))).run Proofs.Tryz.prog w= .ok (.slice (some ⟨w.heap.size,0,none⟩) (n+1) (n+1)) (w.alloc (.cells (madeCells (Value.int .i64 0).cells (n+1)) 3)):=by obtain⟨i,hi,h2⟩:=Rb.1 jj;simp only[HV] at h2;obtain⟨h2,h3,a⟩:=h2;have:=run_make (P:=Proofs.Tryz.prog) w 56 3 i _ Proofs.Tryz.underlying56 hi h2 .i64 .i64 ((n:Int)+1) ((n:Int)+1) Ab Ab (by rw[a];omega) Ab;rw[h3,(Ab:((n:Int)+1).toNat=n+1),Fm] at this;exact this
def az{n:Nat}(w:World):Yj (w.alloc (.cells (madeCells (Value.int .i64 0).cells (n+1)) 3)) w.heap.size n (λ_=>0):=by refine⟨_,World.alloc_heap_new w _,by simp[madeCells],λj hj=>?_⟩;simp[madeCells,(Ab:j<n+1),Value.cells,Nat.mod_one]
structure a_(n₀ S:Nat)(W W':World):Prop where
 size:W.heap.size<=W'.heap.size
 Iy:∀b,b<n₀->b≠S->W'.heap[b]?=W.heap[b]?
def a_.trans{n₀ S:Nat}{A B C:World}(h:a_ n₀ S A B)(k:a_ n₀ S B C):a_ n₀ S A C:=⟨Bj h.size k.size,λb hb hs=>(k.Iy b hb hs).trans (h.Iy b hb hs)⟩
def On(len c:Nat):List Nat:=((List.range len).drop c).reverse
def cT{len c:Nat}(hc:c<len):On len c=On len (c+1)++[c]:=by unfold On;rw[AB (by simpa using hc),GD,aEx]
def nX{len:Nat}:On len len=[]:=by unfold On;rw[A6 Av];rfl
def ql{n n₀ S p:Nat}{l:List Int}{ao:Option Addr}{capv:Nat}{w:World}(hn:n₀=w.heap.size)(hlen:l.length<=2000000000)(hp:w.cell? ⟨p,0,none⟩=some (.slice ao l.length capv))(g:p≠S)
  (hc:∀i (hi:i<l.length),∃b,ao=some ⟨b,0,none⟩/\b≠S/\w.cell? ⟨b,i,none⟩=some (.int .i64 l[i]))
  (d:Nat) (J:List Nat->World->Prop) (W:World) (hW:Below w.heap.size w W) (t:∀pre A A',J pre A->Below A.heap.size A A'->J pre A')
  (r:∀pre (y:Nat) W1,J pre W1->pre.length<l.length->YieldAt Fence.wide (n-1) Proofs.Tryz.prog d #[.int .i64 (y:Int),.int .i64 (l.getD y 0)] W1 λe W'=>e= .returned (.bool true)/\J (pre++[y]) W'/\a_ n₀ S W1 W') (hj:J [] W):
  CallsIn Fence.wide n Proofs.Tryz.prog 159 (#[.func (.yield d) #[] #[]]++#[.pointer (some ⟨p,0,none⟩)]) W λe W'=>(∃v,e= .returned v)/\J (List.range l.length).reverse W':=by
 subst hn;have j:a_ w.heap.size S w W:=⟨hW.size,λb hb _=>hW.block b hb⟩;have kp:∀{W'},a_ w.heap.size S w W'->W'.cell? ⟨p,0,none⟩=some (.slice ao l.length capv):=λ{W'} k=>by rw[B1 (k.Iy p (CL hp) g)];exact hp
 have x:=kp j;refine callsIn_of_wp Proofs.Tryz.func159 rfl trivial ?_ rfl;simp only[Proofs.Tryz.ntmps159,Bx,AO,Bq,Nat.reduceAdd,Nat.reduceSub,Em,En,Fs,EG,Bt,Cl];have yQ:maxLen<=9223372036854775807:=Br;gi_wp2
 gi_loopg [3] l.length (λk v wr=>∃c:Nat,k=c/\c<=l.length/\v= .int .i64 ((c:Int)-1)/\J (On l.length c) wr/\a_ w.heap.size S w wr)
 case atStart=>exact⟨_,rfl,Ae _,rfl,by rw[nX];exact hj,j⟩
 case round=>
  obtain⟨c,yJ,hcl,rfl,m,kc⟩:=hrel;have u:=kp kc;cases c with
  |zero=>
   gi_wp2
   go_end0
   exact⟨⟨_,rfl⟩,by simpa[On] using m⟩
  |succ c=>
   have s:(((c+1:Nat):Int)-1)=(c:Int):=Ab;rw[s];obtain⟨b,rfl,h,a⟩:=hc c Ab;have aIX:wr.cell? ⟨b,c,none⟩=some (.int .i64 l[c]):=by rw[B1 (kc.Iy b (CL a) h)];exact a
   have hw:=Go.IntWalk.wrap64_in ((c:Int)-1) ⟨Ab,Ab⟩;have f:(On l.length (c+1)).length<l.length:=by unfold On;simp;omega
   have ô:=r (On l.length (c+1)) c wr m f;rw[show l.getD c 0=l[c] by rw[Ay,Ak Ab];rfl,<-cT Ab] at ô;obtain⟨fn,tmps,assign,body,hy,hR⟩:=ô;have hR2:∀k,RoundIn Fence.wide k Proofs.Tryz.prog d fn tmps assign body wr _:=λk=>⟨hR.1,λc cs _=>hR.2 c cs (room_wide _)⟩;gi_wp2
   first|refine(hR2 _).mono ?_|(refine⟨nofun,?_⟩;refine(hR2 _).mono ?_)
   rintro e W3 ⟨rfl,q,o⟩;gi_wp2
   gi_roundg c
   case measure=>omega
   case rel=>refine⟨c,rfl,Ab,?_,q,kc.trans o⟩;first|rfl|exact B8 (Value.int .i64) hw
def Xi(g o n:Nat)(up:Int->Int)(w:World):Prop:=∀x:Int,1<=x->x<=n->∃p q:Int,w.cell? ⟨g,o+(x.toNat-1)*13+1,none⟩=some (.int .i64 p)/\w.cell? ⟨g,o+(x.toNat-1)*13+12,none⟩=some (.int .i64 q)/\up x=if p=0 then q else p
def Xi.below{g o n:Nat}{up:Int->Int}{w W:World}(h:Xi g o n up w)(hb:Below w.heap.size w W):Xi g o n up W:=λx h1 h2=>by obtain⟨p,q,b,a,e⟩:=h x h1 h2;exact⟨p,q,by rw[B1 (hb.block _ (CL b))];exact b,by rw[B1 (hb.block _ (CL a))];exact a,e⟩
def cU(n:Nat)(a:Act):Nat:=match a.tmps.getD 16 undef with
 | .int _ i=>n-i.toNat
 |_=>0
def bb{g o n cap:Nat}{up:Int->Int}{r:Int->Nat}{w:World}(hn:n<=1000000000)(MQ:n<=cap)(hM:Xi g o n up w)
  (aM:∀x:Int,1<=x->x<=n->1<=r x/\(up x=0\/((1<=up x/\up x<=n)/\r (up x)<r x))) (hr:∀x:Int,1<=x->x<=n->r x<=n+1):
  Calls Proofs.Tryz.prog 52 #[.slice (some ⟨g,o,none⟩) n cap] w λe w'=>e= .returned (.bool true)/\Below w.heap.size w w':=by
 have hwn:wrap64 ((n:Int)+1)=(n:Int)+1:=Go.IntWalk.wrap64_in _ ⟨Ab,Ab⟩;refine(callsIn_wide (n:=5)).1 ?_;refine callsIn_of_wp_marks Proofs.Tryz.func52 rfl trivial ?_;simp only[Proofs.Tryz.ntmps52,Bx,AO,Bq,Nat.reduceAdd,Nat.reduceSub,Em,En,Fs,EG,Bt,Cl];have ñ:=jo hn w;have hS:=az (n:=n) w;gi_wp2
 obtain⟨i0,jq,qF,hz1,hz2⟩:=info_parts (show(Proofs.Tryz.prog.info? 3).map (λi=>(i.zero,i.size,i.bytes))=some (some (.int .i64 0),1,8) from jj);have bB:=Boxed.new (w.alloc (.cells (madeCells (Value.int .i64 0).cells (n+1)) 3)) 56 (.slice (some ⟨w.heap.size,0,none⟩) (n+1) (n+1));simp only[World.size_alloc] at bB;have hS0:Yj ((w.alloc (.cells (madeCells (Value.int .i64 0).cells (n+1)) 3)).alloc (.cells #[.slice (some ⟨w.heap.size,0,none⟩) (n+1) (n+1)] 56)) w.heap.size n (λ_=>0):=hS.Iy (Below.heap_alloc _ _ _ Av);have hb0:Below w.heap.size w ((w.alloc (.cells (madeCells (Value.int .i64 0).cells (n+1)) 3)).alloc (.cells #[.slice (some ⟨w.heap.size,0,none⟩) (n+1) (n+1)] 56)):=((Below.refl _ w).alloc (Ae _) _).alloc Av _;clear ñ hS;refine wpIn_loop (λa W=>∃(i:Nat) (Ds:List Nat) (u2 u4 u5 u6 u7 u9 u17 u18 u19 u20 u21 u22 u23 u24 u25 u26 u27 u28 u29 u30 u31 u32 u33 u34 u35 u36 u37 u38 u39 u40 u41 u42 u43 u44 u45 u46 u47 u48 Y X V U T R Q P O M L I H G F:Value),a={tmps:=#[.slice (some ⟨g,o,none⟩) n cap,undef,u2,.pointer (some ⟨w.heap.size+1,0,none⟩),u4,u5,u6,u7,undef,u9,.slice (some ⟨g,o,none⟩) n cap,.int .i64 (n:Int),.int .i64 ((n:Int)+1),.slice (some ⟨w.heap.size,0,none⟩) (n+1) (n+1),.slice (some ⟨g,o,none⟩) n cap,.int .i64 (n:Int),.int .i64 (i:Int),u17,u18,u19,u20,u21,u22,u23,u24,u25,u26,u27,u28,u29,u30,u31,u32,u33,u34,u35,u36,u37,u38,u39,u40,u41,u42,u43,u44,u45,u46,u47,u48,Y,X,V,U,T,R,Q,P,O,M,L,I,H,G,F],defers:=Ds.map λD=>{target:= .collected D,args:=#[]}}/\i<=n/\Ds.Nodup/\(∀D∈Ds,w.heap.size+2<=D/\W.heap[D]?=some (.deferred (some [])))/\
  Below w.heap.size w W/\Boxed W (w.heap.size+1) 56 (.slice (some ⟨w.heap.size,0,none⟩) (n+1) (n+1))/\∃st,Yj W w.heap.size n st/\∀j,j<=n->st j≠1) (λa _=>cU n a) ?h0 ?round
 case h0=>exact⟨0,[],.bool false,undef,undef,undef,undef,undef,undef,undef,undef,undef,undef,undef,undef,undef,undef,undef,undef,undef,undef,undef,undef,undef,undef,undef,undef,undef,undef,undef,undef,undef,undef,undef,undef,undef,undef,undef,undef,undef,undef,undef,undef,undef,undef,undef,undef,undef,undef,undef,undef,undef,undef,undef,undef,rfl,AZ _,IN,λD c=>(by cases c),hb0,bB,_,hS0,λ_ _=>Br⟩
 case round=>
  rintro a W ⟨i,Ds,u2,u4,u5,u6,u7,u9,u17,u18,u19,u20,u21,u22,u23,u24,u25,u26,u27,u28,u29,u30,u31,u32,u33,u34,u35,u36,u37,u38,u39,u40,u41,u42,u43,u44,u45,u46,u47,u48,Y,X,V,U,T,R,Q,P,O,M,L,I,H,G,F,rfl,hi,zJ,Yf,hb,bx,st,Hw,hne⟩;have cB:=bx.cell;by_cases hlt:i<n
  .have aBP:(i:Int)<(n:Int):=by exact_mod_cast hlt
   have hwi:=Tx i n hlt Ab;gi_wp2
   gi_loopg [5,6] (r ((i:Int)+1)) (λk v5 v6 wr=>∃(h:Nat) (l:List Int) (ao:Option Addr) (d:Nat),v6= .int .i64 (h:Int)/\v5= .slice ao l.length d/\k=(if h=0 then 0 else r (h:Int))/\h<=n/\l.length+(if h=0 then 0 else r (h:Int))<=n+1/\wr.ownsRow (w.heap.size+2) 3 1 (.slice ao l.length d) l.length (l.map (Value.int .i64))/\
    (∀y∈l,(1<=y/\y<=(n:Int))/\(h≠0->r (h:Int)<r y))/\(∀D∈Ds,w.heap.size+2<=D/\wr.heap[D]?=some (.deferred (some [])))/\Below w.heap.size w wr/\Boxed wr (w.heap.size+1) 56 (.slice (some ⟨w.heap.size,0,none⟩) (n+1) (n+1))/\
    ∃st,Yj wr w.heap.size n st/\∀j,j<=n->st j=1->(j:Int)∈l)
   case atStart=>have h1:=hr ((i:Int)+1) Ab Ab;refine⟨i+1,[],none,0,?_,rfl,by rw[Ac Ab];rfl,Ab,by rw[Ac Ab];simpa using h1,⟨rfl,.inl ⟨rfl,rfl⟩⟩,λy hy=>(by cases hy),Yf,hb,bx,st,Hw,λj hj h=>absurd h (hne j hj)⟩;first|rfl|exact B8 (Value.int .i64) hwi
   case round=>
    obtain⟨h,l,ao,d,rfl,rfl,hk,v,YC,hrow,hl,nY,MR,õ,aN,tL,UC⟩:=hrel;have cB2:=õ.cell;have cS:=tL.cell v;have hWn:w.heap.size+2<=wr.heap.size:=by have:=õ.lt;omega
    by_cases Of:h=0\/aN h=2
    .have hv:∀i (hi:i<l.length),∃b,ao=some ⟨b,0,none⟩/\b≠w.heap.size/\wr.cell? ⟨b,i,none⟩=some (.int .i64 l[i]):=by
      obtain⟨Iz,⟨B,h0⟩|⟨rr,cap',cur,B,zr,hc,zg,yL,hsz,ht⟩⟩:=hrow;.obtain rfl:=B4 h0;exact λi hi=>by simp at hi
      .cases B;refine λi hi=>⟨rr,rfl,Ab,?_⟩;have e:(cur.toList.take l.length)[i]?=some (Value.int .i64 l[i]):=by rw[Fm] at ht;rw[ht];simp[hi]
       rw[Ch hi] at e;simp[World.cell?,hc,<-Sg,e]
     have jr:l.length<=2000000000:=Ab;have qm:Below wr.heap.size wr (wr.alloc (.cells #[.slice ao l.length d] 56)):=(Below.refl _ wr).alloc (Ae _) _;have qo:=tL.Iy (qm.block _ tL.lt);have pt:Below w.heap.size w (wr.alloc (.cells #[.slice ao l.length d] 56)):=MR.trans (qm.mono MR.size);have bx4:=õ.alloc (.cells #[.slice ao l.length d] 56);have tM:(wr.alloc (.cells #[.slice ao l.length d] 56)).heap.size=wr.heap.size+1:=World.size_alloc _ _;have hpc:=I8 wr (.slice ao l.length d) 56;by_cases h0:h=0;case' pos=>subst h0;gi_wp2
     case' neg=>
      have z1:((h:Int) != 0)=true:=by simp[h0]
      have z2:aN h=2:=Of.resolve_left h0;rw[z2] at cS;gi_wp2
     all_goals
      refine⟨trivial,(callsIn_wide.2 (Y9 ao l.length d _)).mono ?_⟩;rintro e w' ⟨rfl,rfl⟩;gi_wp2
      refine Xh (gf:=159) (N:=l.length) (lb:=#[.pointer (some ⟨wr.heap.size,0,none⟩)]) (λt (y:Nat)=>((t.setIfInBounds 58 (.int .i64 (y:Int))).setIfInBounds 59 (.int .i64 (l.getD y 0))).setIfInBounds 9 (.int .i64 (l.getD y 0))) (λy:Nat=>#[.int .i64 (y:Int),.int .i64 (l.getD y 0)]) (List.range l.length).reverse (a_ (wr.heap.size+1) w.heap.size) rfl (Go.Proofs.enters_of Proofs.Tryz.func159 AU rfl)
       ?_ (λh1 h2=>h1.trans h2) ?_ (λ_=>rfl)
       (λpre W=>(∀D∈Ds,w.heap.size+2<=D/\W.heap[D]?=some (.deferred (some [])))/\Below w.heap.size w W/\Boxed W (w.heap.size+1) 56 (.slice (some ⟨w.heap.size,0,none⟩) (n+1) (n+1))/\∃st,Yj W w.heap.size n st/\∀j,j<=n->st j=1->∃k,k<l.length/\l.getD k 0=(j:Int)/\k∉pre) ?_ ?_ ?_ ?_ ?_
      .intro lp J W' hW' hJ hY hj;exact ql (n:=4) (n₀:=wr.heap.size+1) (S:=w.heap.size) (p:=wr.heap.size) (l:=l) (ao:=ao) (capv:=d) tM.symm jr hpc.1 Ab (λi hi=>by obtain⟨b,e,hb,hc⟩:=hv i hi;exact⟨b,e,hb,Cm _ hc⟩) lp J W' hW' hJ hY hj
      .intro W' r' o o' F6 ho hc;rw[tM] at F6;exact⟨HF Av,λb hb _=>World.putObj_heap_other Ab⟩
      .rintro pre A A' row ⟨i1,z,i3,st,s,i5⟩ hg F6;have kp:∀b,b<wr.heap.size+1->b<A.heap.size->A'.heap[b]?=A.heap[b]?:=λb h1 h2=>hg.block b h2 (λe=>by have:=(F6 b e.symm).1;rw[tM] at this;omega);have hlD:∀D∈Ds,D<wr.heap.size:=λD c=>(Aq.1 (nY D c).2).1;refine⟨λD c=>⟨(i1 D c).1,(kp D (by have:=hlD D c;omega) (Aq.1 (i1 D c).2).1).trans (i1 D c).2⟩,z.grown hg z.size (λk e=>by have:=(F6 k e).1;rw[tM] at this;omega),?_,st,s.Iy (kp _ Ab s.lt),i5⟩;unfold Boxed;rw[kp _ Ab i3.lt];exact i3
      .refine⟨λD c=>⟨(nY D c).1,(qm.block D (Aq.1 (nY D c).2).1).trans (nY D c).2⟩,pt,bx4,aN,qo,λj hj h1=>?_⟩;obtain⟨k,SX,O7⟩:=aA0 (UC j hj h1);exact⟨k,SX,by rw[Ay,Ak SX];exact O7,Av⟩
      .intro lp y W' K hK;have p_:=Oper.semAt_some lp;gi_wp2
       exact hK
      .rintro lp pre y W' ⟨i1,z,i3,st,s,i5⟩ hlen;have hy:0<=l.getD y 0/\l.getD y 0<=(n:Int):=by
        rw[Ay];rcases A8 y l.length with h1|h1
        .rw[Ak h1];have:=(hl _ (AP h1)).1;show 0<=l[y]/\l[y]<=(n:Int);omega
        .rw[CZ h1];show(0:Int)<=0/\(0:Int)<=(n:Int);omega
       obtain⟨C,ô⟩:∃C:Nat,l.getD y 0=(C:Int):=⟨(l.getD y 0).toNat,Ab⟩;have hyn:C<=n:=Ab;rw[ô];have p_:=Oper.semAt_some lp;have cB3:=i3.cell;have cS3:=s.cell hyn;have fS3:=s.frozen C;simp only[List.setIfInBounds_toArray,aEy,List.set_cons_succ];gi_wp2
       refine⟨KeepsOthers.setCell _ _ _,⟨HF Av,λb hb hbS=>Below.heap_setCell _ _ _ b hbS⟩,λD c=>⟨(i1 D c).1,(Below.heap_setCell _ _ _ D (by have:=(i1 D c).1;simp;omega)).trans (i1 D c).2⟩,z.setCell (Ae _) _,?_,_,s.set hyn 2,λj hj h1=>?_⟩;.unfold Boxed;rw[Below.heap_setCell _ _ _ _ Av];exact i3
       .by_cases ej:j=C;.rw[Ad ej] at h1;exact absurd h1 Br
        .rw[Ac ej] at h1;obtain⟨k,SX,O7,Tt⟩:=i5 j hj h1;refine⟨k,SX,O7,λhm=>?_⟩;rcases An.1 hm with hm|hm
         .exact Tt hm
         .rw[Eg.1 hm,ô] at O7;omega
      .rintro D W' ⟨i1,z,i3,st,s,i5⟩ hK c;rw[tM] at c;gi_wp2
       refine⟨⟨i+1,D::Ds,_,_,_,_,_,_,_,_,_,_,_,_,_,_,_,_,_,_,_,_,_,_,_,_,_,_,_,_,_,_,_,_,_,_,_,_,_,_,_,_,_,_,_,_,_,_,_,_,_,_,_,_,_,rfl,Ab,BC.2 ⟨λhm=>by have:=(Aq.1 (nY D hm).2).1;omega,zJ⟩,λE hE=>?_,z,i3,st,s,λj hj h1=>?_⟩,?_⟩
       .rcases Az.1 hE with rfl|hE
        .exact⟨Ab,hK⟩
        .exact i1 E hE
       .obtain⟨k,SX,_,Tt⟩:=i5 j hj h1;exact Tt (by simpa using SX)
       .show n-(((i+1:Nat):Int)).toNat<n-((i:Int)).toNat;omega
    .have h0:h≠0:=λe=>Of (.inl e);have h2:aN h≠2:=λe=>Of (.inr e);have yH:aN h≠1:=λe=>by obtain⟨_,h3⟩:=hl _ (UC h v e);exact absurd (h3 h0) (CX _)
     obtain⟨m,rfl⟩:∃m,h=m+1:=⟨h-1,Ab⟩;have z1:((m:Int)+1 != 0)=true:=Ew;have z2:(aN (m+1) != 2)=true:=by simp[h2]
     have z3:(aN (m+1)==1)=false:=by simp[yH]
     have hwm:wrap64 ((m:Int)+1 -1)=(m:Int):=by rw[Go.IntWalk.wrap64_in _ ⟨Ab,Ab⟩];omega
     have fS:=tL.frozen (m+1);have aBV:=tL.set v 1;have hg1:=UR wr ⟨w.heap.size,m+1,none⟩ (.int .i64 1);have iM:∀k,(Value.slice ao l.length d).ownBlock=some k->w.heap.size+2<=k:=λk e=>(hrow.lt k e).1;have tN:(wr.setCell ⟨w.heap.size,m+1,none⟩ (.int .i64 1)).ownsRow (w.heap.size+2) 3 1 (.slice ao l.length d) l.length (l.map (Value.int .i64)):=hrow.kept hg1 (.inr λe=>by have:=iM _ e;simp at this;omega);have aI5:l.length+1<=n+1:=by have:=(aM ((m+1:Nat):Int) Ab Ab).1;rw[Ac h0] at YC;omega
     gi_wp2_with (gi_at_builtin;refine wpListIn_append_own_at _ rfl _ _ 56 rfl (w.heap.size+2) 3 i0 (.int .i64 0) 1 8 Proofs.Tryz.underlying56 jq qF hz1 hz2 rfl Br _ _ _ rfl (tN.alloc _) ⟨wr.heap.size,0,none⟩ 1 1 [.int .i64 ((m:Int)+1)] rfl rfl ?qc1 ?qc2 ?qc3 ?qc4 ?qc5 ?qc6)
     case qc2=>rfl
     case qc3=>unfold maxLen;omega
     case qc4=>omega
     case qc5=>omega
     intro v' w1 hown ET hnil nN;obtain⟨g',cap',rfl⟩:=ownsRow_succ hown;have nZ:(wr.setCell ⟨w.heap.size,m+1,none⟩ (.int .i64 1)).heap.size=wr.heap.size:=Av;have keep1:∀b,b<wr.heap.size->b≠w.heap.size->(Value.slice ao l.length d).ownBlock≠some b->w1.heap[b]?=wr.heap[b]?:=λb h1 h2 h3=>(ET.block b (by rw[World.size_alloc,nZ];omega) (λe=>h3 e.symm)).trans ((Below.heap_alloc _ _ _ (by rw[nZ];exact h1)).trans (Below.heap_setCell _ _ _ b h2))
     have u:w1.heap[w.heap.size]?=(wr.setCell ⟨w.heap.size,m+1,none⟩ (.int .i64 1)).heap[w.heap.size]?:=
      (ET.block _ (by rw[World.size_alloc,nZ];omega) (λe=>by have:=iM _ e.symm;omega)).trans (Below.heap_alloc _ _ _ (by rw[nZ];omega))
     have qo:=aBV.Iy u;have yP:Below w.heap.size w w1:=((MR.setCell (p:=⟨w.heap.size,m+1,none⟩) (Ae _) _).alloc (by rw[nZ];omega) _).grown ET (by rw[World.size_alloc,nZ];omega) (λk e=>by have:=iM k e;omega);have bx3:Boxed w1 (w.heap.size+1) 56 (.slice (some ⟨w.heap.size,0,none⟩) (n+1) (n+1)):=by unfold Boxed;rw[keep1 _ õ.lt Ab (λe=>by have:=iM _ e;omega)];exact õ
     have ds3:∀D∈Ds,w.heap.size+2<=D/\w1.heap[D]?=some (.deferred (some [])):=λD c=>by
      obtain⟨q1,q2⟩:=nY D c;refine⟨q1,(keep1 D (Aq.1 q2).1 Ab (λe=>?_)).trans q2⟩;rcases hrow.2 with⟨B,_⟩|⟨rr,_,cur,B,_,hc,_⟩
      .rw[B] at e;cases e
      .rw[B] at e;cases e;rw[hc] at q2;cases q2
     obtain⟨p,q,c1,c2,f⟩:=(hM.below yP) ((m+1:Nat):Int) Ab Ab;rw[(Ab:(((m+1:Nat):Int)).toNat-1=m)] at c1 c2;obtain⟨r1,Gq⟩:=aM ((m+1:Nat):Int) Ab Ab;obtain⟨h',gy⟩:∃h':Nat,up ((m+1:Nat):Int)=(h':Int):=⟨(up ((m+1:Nat):Int)).toNat,Ab⟩;rw[Ac h0] at hk YC;have rel:∀k,k=(if h'=0 then 0 else r (h':Int))->∃(h:Nat) (l':List Int) (ao:Option Addr) (d:Nat),Value.int .i64 (h':Int)= .int .i64 (h:Int)/\Value.slice (some ⟨g',0,none⟩) (l.length+1) cap'= .slice ao l'.length d/\k=(if h=0 then 0 else r (h:Int))/\h<=n/\l'.length+(if h=0 then 0 else r (h:Int))<=n+1/\w1.ownsRow (w.heap.size+2) 3 1 (.slice ao l'.length d) l'.length (l'.map (Value.int .i64))/\
       (∀y∈l',(1<=y/\y<=(n:Int))/\(h≠0->r (h:Int)<r y))/\(∀D∈Ds,w.heap.size+2<=D/\w1.heap[D]?=some (.deferred (some [])))/\Below w.heap.size w w1/\Boxed w1 (w.heap.size+1) 56 (.slice (some ⟨w.heap.size,0,none⟩) (n+1) (n+1))/\
       ∃st,Yj w1 w.heap.size n st/\∀j,j<=n->st j=1->(j:Int)∈l':=by
      intro k hk;have rlt:h'≠0->r (h':Int)<r ((m+1:Nat):Int):=λhne=>by
       rcases Gq with hc|⟨_,hc⟩
       .omega
       .rw[gy] at hc;exact hc
      refine⟨h',l++[((m+1:Nat):Int)],some ⟨g',0,none⟩,cap',rfl,Av,hk,?_,?_,by simpa using hown,λy hy=>?_,ds3,yP,bx3,_,qo,λj hj h1=>?_⟩;.rcases Gq with hc|⟨hc,_⟩<;>omega
      .by_cases e:h'=0;.rw[Ad e];simp;omega
       .rw[Ac e];have:=rlt e;simp;omega
      .rcases An.1 hy with hy|hy
       .obtain⟨a1,a2⟩:=hl y hy;exact⟨a1,λhne=>yw (rlt hne) (a2 h0)⟩
       .rw[Eg.1 hy];exact⟨Ab,rlt⟩
      .by_cases ej:j=m+1;.rw[ej];simp
       .rw[Ac ej] at h1;exact B5 _ (UC j hj h1)
     have mlt:(if h'=0 then 0 else r (h':Int))<r ((m+1:Nat):Int):=by
      by_cases e:h'=0;.rw[Ad e];omega
      .rw[Ac e];rcases Gq with hc|⟨_,hc⟩
       .omega
       .rw[gy] at hc;exact hc
     by_cases p0:p=0
     .subst p0;rw[Ad rfl,gy] at f;subst f;gi_wp2
      gi_roundg (if h'=0 then 0 else r (h':Int))
      case measure=>rw[hk];exact mlt
      case rel=>exact rel _ rfl
     .rw[Ac p0,gy] at f;subst f;have z4:((h':Int)==0)=false:=by simpa using p0
      gi_wp2
      gi_roundg (if h'=0 then 0 else r (h':Int))
      case measure=>rw[hk];exact mlt
      case rel=>exact rel _ rfl
  .obtain rfl:i=n:=by omega
   gi_wp2
   refine RB (lo:=w.heap.size+2) (Z:=λW=>Below w.heap.size w W) (λW hW=>⟨.bool true,?_,rfl,hW⟩) (λW D hW zr c=>?_) Ds W zJ Yf hb;.simp[results,Proofs.Tryz.f52,go_sem]
   .exact hW.grown (grownBy_putObj' W D _) (by have:=hW.size;omega) (λk e=>by cases e;omega)
def VR{U:Gh}{h:Ah}{w:World}(hi:Gm U h w){Af:List (List Aa)}{b o:Nat}(hm:DY U Af 13 b o){i j:Nat}{row:List Aa}{x:Int}(h1:Af[i]?=some row)(h2:row[j]?=some (.int .i64 x)):w.cell? ⟨b,o+i*13+j,none⟩=some (.int .i64 x):=by obtain⟨_,hr⟩:=DY.get hm h1;obtain⟨u,hu,hv⟩:=Cz.get hr h2;cases hv;exact(hi.GQ _ _ _ hu).1
def ö{ad:Addr}{cap:Nat}{w:World}:Calls Proofs.Tryz.prog 52 #[.slice (some ad) 0 cap] w λe w'=>e= .returned (.bool true)/\Below w.heap.size w w':=by
 have ñ:(Instr.makeSlice 56 (.int .i64 1) (.int .i64 1)).run Proofs.Tryz.prog w= .ok (.slice (some ⟨w.heap.size,0,none⟩) 1 1) (w.alloc (.cells (madeCells (Value.int .i64 0).cells 1) 3)):=jo (n:=0) Br w;refine(callsIn_wide (n:=5)).1 ?_;refine callsIn_of_wp_marks Proofs.Tryz.func52 rfl trivial ?_;simp only[Proofs.Tryz.ntmps52,Bx,AO,Bq,Nat.reduceAdd,Nat.reduceSub,Em,En,Fs,EG,Bt,Cl];gi_wp2
 refine wpIn_loop_rounds 1 ?_;show Code.wpIn _ _ _ _ _ _ _;gi_wp2
 refine⟨.bool true,?_,rfl,((Below.refl _ w).alloc (Ae _) _).alloc Av _⟩;simp[results,Proofs.Tryz.f52,go_sem]
def bc{h:Ah}(n:Nat)(args:List Aa)(r:Aa)(h':Ah)(AH:IT.step (BY cx) (IT.run (BY cx) n) (PD args) h=some (.ret,[r],h')):
  (∃fn c,cx.P.funcs[DX 52]?=some fn/\(fn.name== "runtime.NumGoroutine")=false/\fn.body=some c)/\
  ∀(U:Gh) (w:World) (cargs:Array Value),Gm U h w->(∀g cs,cx.FV g=some cs->Cz U cs g 0)->AQ U args cargs.toList->
   Calls cx.P (DX 52) cargs w λe w'=>match e with
    | .returned v=>∃b,Gm b h' w'/\Kf U w b w'/\Bv b r v/\(cx.HX 52=true->∃s c,HB b w.heap.size w' s c v r)
    |_=>False:=by
 refine⟨⟨_,_,Proofs.Tryz.func52,rfl,rfl⟩,λU w cargs hi hg ha=>?_⟩;unfold PD at AH;simp only[IT.step,D2] at AH;cases e0:NS h args with
 |none=>simp[e0] at AH
 |some l=>
  obtain⟨h1,m⟩:=l;simp only[e0] at AH;obtain⟨Af,rfl,rfl,rfl,hlen,Qw⟩:=Y8 e0;simp only[Bs,HV,EM,Hl,IP] at AH;obtain⟨rfl,rfl⟩:=AH;obtain⟨v0,us,yM,⟨ad,cap,rfl,hc,hp,hm⟩,hnil⟩:=ha;cases hnil;have a:cargs=#[.slice (some ad) Af.length cap]:=by apply Fw;simpa using yM
  subst a;have HT:Calls Proofs.Tryz.prog 52 #[.slice (some ad) Af.length cap] w λe w'=>e= .returned (.bool true)/\Below w.heap.size w w':=by
   by_cases h0:Af.length=0;.rw[h0];exact ö
   .obtain⟨g,o,sp⟩:=ad;have hsp:sp=none:=by
     rcases hp with hp|hp
     .exact hp
     .omega
    subst hsp;have step:=λ(x:Int) (h1:1<=x) (h2:x<=(Af.length:Int))=>tK (Qw x h1 h2) Ab;refine bb (up:=λx=>(WX Af x).getD 0) (r:=Xg Af) hlen hc (λx h1 h2=>?_) (λx h1 h2=>?_) (λx h1 h2=>(NU (Qw x h1 h2) Ab).2);.obtain⟨y,hy,_⟩:=step x h1 h2;obtain⟨row,p,q,f,k,j,i⟩:=ay hy;rw[(Ab:(x-1).toNat=x.toNat-1)] at f;exact⟨p,q,VR hi hm f k,VR hi hm f j,by show(WX Af x).getD 0=_;rw[hy];exact i⟩
    .obtain⟨y,hy,hc⟩:=step x h1 h2;have d:x≠0:=Ab;obtain⟨f',_,e,_⟩:=OO d (NU (Qw x h1 h2) Ab).1;show 1<=Xg Af x/\((WX Af x).getD 0=0\/((1<=(WX Af x).getD 0/\(WX Af x).getD 0<=(Af.length:Int))/\Xg Af ((WX Af x).getD 0)<Xg Af x));rw[hy];exact⟨Ab,hc⟩
  refine HT.mono λe w' he=>?_;obtain⟨rfl,hb⟩:=he;obtain⟨VF,Pw⟩:=hi.JA hb;exact⟨U,VF,Pw,rfl,λe=>by cases e⟩
end Go.Am
end
section
namespace Go.Am
open Go
def bd:WS cx:=by
 refine⟨λf hf=>?_,λf p hp n hs args h r h' AH=>?_⟩
 .simp only[cx,á] at hf;split at hf;.exact nV
  .cases hf
 .simp only[cx,jh] at hp;split at hp;.cases hp;exact qi n hs args r h' AH
  .cases hp;exact bc n args r h' AH
  .cases hp;exact au n args r h' AH
  .cases hp;exact ar n hs args r h' AH
  .cases hp
end Go.Am
end
