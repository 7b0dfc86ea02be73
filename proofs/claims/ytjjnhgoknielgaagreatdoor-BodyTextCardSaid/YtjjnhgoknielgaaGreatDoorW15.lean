/- Lemmas -/
import Derived.Test.YtjjnhgoknielgaaGreatDoorW14
import Derived.Conc.MuLone
set_option linter.all false
set_option maxHeartbeats 0
set_option maxRecDepth 100000
namespace Go.Am
open Go Go.RowKit Go.Shelf
section
variable{U U':Gh}{h:Ai}{w w':World}
def It.aEq(hi:It U h w){id g j:Nat}{cs:List Ab}(hcs:h[id]?=some (.cells cs))(hg:U.mu id=some g)(hj:j<cs.length){u:Ab}{v:Value}(hv:BQ U u v)(h1:v.oneCell'=true):
  It U (h.set id (.cells (cs.set j u))) (w.setCell ⟨g,j,none⟩ v)/\Nb U w U (w.setCell ⟨g,j,none⟩ v):=by
 obtain⟨us,e,fr,k,n,f,m⟩:=hi.cells id cs hcs g hg;have hl:cs.length<=us.size:=by have:=f.length;simp at this;omega
 rw[setCell_eq_setRow w g j us e fr v k];have c:(us.setIfInBounds j v).toList.take (cs.set j u).length=(us.toList.take cs.length).set j v:=by simp[List.take_set]
 refine OB hi hcs hg k _ _ AB (by simpa using n) ?_ ?_
 .rw[c];refine Bc.HC EE λi a x ha hx=>?_;by_cases b:j=i;.subst b;rw[AI Ac] at ha;rw[AI EE] at hx;cases ha;cases hx;exact hv
  .rw[Aq b] at ha hx;obtain⟨x',d,l⟩:=f.get ha;rw[hx] at d;cases d;exact l
 .rw[c];intro x hx;rcases DC hx with hx|rfl
  .exact m x hx
  .exact h1
def It.TL(hi:It U h w){id g j:Nat}{cs:List Ab}{u:Ab}(hcs:h[id]?=some (.cells cs))(hg:U.mu id=some g)(hj:cs[j]?=some u):
  w.frozen? ⟨g,j,none⟩=false/\∃x,w.cell? ⟨g,j,none⟩=some x/\BQ U u x:=by
 obtain⟨x,b,_,a⟩:=OL hi hcs hg hj;obtain⟨us,e,fr,f,d,c,i⟩:=hi.cells id cs hcs g hg;have hl:cs.length<=us.size:=by have:=c.length;simp at this;omega
 have:=(Aj.1 hj).1;refine⟨?_,x,b,a⟩;simp only[World.frozen?,f];rcases d with rfl|XU
 .simp
 .simp;omega
end
abbrev aJr:Go.Conc.Locks.MuLink:={lock:=260,unlock:=261,ilock:=288,iunlock:=289,lockSlow:=309,unlockSlow:=312,disable:=305,enable:=307,acquire:=308,relMerge:=310,cas32:=306,add32:=311,tMutex:=198,tIMutex:=196,tPMutex:=297,tPIMutex:=321,tPI32:=323,tUP:=143,tNoCopy:=191,tU32:=145}
open Proofs in
def aJs:Go.Conc.Locks.MuLib Proofs.Tryz.prog aJr:=
 ⟨Tryz.func260,Tryz.func261,Tryz.func288,Tryz.func289,Tryz.func305,Tryz.func307,Tryz.func308,Tryz.func310,Tryz.func306,Tryz.func311,
  Tryz.underlying196,Tryz.runUnderlying196,Tryz.sizeOf196,Tryz.isAgg196,Tryz.zeroValue196,Tryz.underlying198,Tryz.runUnderlying198,Tryz.sizeOf198,Tryz.isAgg198,Tryz.zeroValue198,
  Tryz.underlying297,Tryz.runUnderlying297,Tryz.sizeOf297,Tryz.isAgg297,Tryz.zeroValue297,Tryz.underlying321,Tryz.runUnderlying321,Tryz.sizeOf321,Tryz.isAgg321,Tryz.zeroValue321,
  Tryz.underlying323,Tryz.runUnderlying323,Tryz.sizeOf323,Tryz.isAgg323,Tryz.zeroValue323,Tryz.underlying143,Tryz.runUnderlying143,Tryz.sizeOf143,Tryz.isAgg143,Tryz.zeroValue143,
  Tryz.underlying191,Tryz.runUnderlying191,Tryz.sizeOf191,Tryz.isAgg191,Tryz.zeroValue191,Tryz.underlying21,Tryz.runUnderlying21,Tryz.sizeOf21,Tryz.isAgg21,Tryz.zeroValue21,AT⟩
def Ys(a:Addr)(x:Value)(u:FrameMode)(w:World)(hc:w.cell? a=some x)(hz:w.frozen? a=false):
  CallsD Proofs.Tryz.prog 262 #[.pointer (some a),.bool true] u w λe b w'=>b=u/\(e= .returned (.tuple #[])/\w'=w.drew.setCell a (.int .u32 1)):=by
 have Wt:w.drew.cell? a=some x:=by go_simp
 have aE:w.drew.frozen? a=false:=by go_simp
 have JZ:=run_call_store (P:=Proofs.Tryz.prog) Proofs.Tryz.func290 AT AT AT AT (k:= .u32) (y:=1) Wt aE;go_enter_d Proofs.Tryz.func262,Proofs.Tryz.ntmps262
 go_wp2
 go_region_calls
 all_goals (go_end0;exact⟨rfl,rfl⟩)
def zM(a:Addr)(d:Int)(w:World)(h0:w.cell? a=some (.int .u32 d)):Calls Proofs.Tryz.prog 225 #[.pointer (some a)] w λe w'=>e= .returned (.bool (d != 0))/\w=w':=by
 have hl:=run_call_load (P:=Proofs.Tryz.prog) Proofs.Tryz.func259 AT AT AT .u32 AT h0;go_enter Proofs.Tryz.func225,Proofs.Tryz.ntmps225
 go_wp2
 go_ret
 exact⟨rfl,rfl⟩
abbrev uA(b:Nat)(r:Value)(w:World)(Q:World->Prop):Prop:=
 Calls Proofs.Tryz.prog 176 #[r] (w.setCell ⟨b,1,none⟩ (.int .i32 1)) λe w'=>(∃v,e= .returned v)/\Q w'/\w'.cell? ⟨b,0,none⟩=some (.int .u32 0)/\w'.cell? ⟨b,1,none⟩=some (.int .i32 1)/\w'.frozen? ⟨b,0,none⟩=false/\w'.frozen? ⟨b,1,none⟩=false
def aAJ(b:Nat)(r:Value)(w:World)(Q:World->Prop)(hd:uA b r w Q)
  (h0:w.cell? ⟨b,0,none⟩=some (.int .u32 0)) (h1:w.cell? ⟨b,1,none⟩=some (.int .i32 0))
  (f0:w.frozen? ⟨b,0,none⟩=false) (f1:w.frozen? ⟨b,1,none⟩=false):
  Calls Proofs.Tryz.prog 226 #[.pointer (some ⟨b,0,none⟩),.func (.func 176) #[r] #[]] w λe w'=>e= .returned (.tuple #[])/\
   ∃w'',Q w''/\w'=(w''.drew.setCell ⟨b,0,none⟩ (.int .u32 1)).setCell ⟨b,1,none⟩ (.int .i32 0):=by
 have l0:(w.setCell ⟨b,1,none⟩ (.int .i32 1)).cell? ⟨b,0,none⟩=some (.int .u32 0):=(World.cell?_setCell_other _ ⟨b,1,none⟩ ⟨b,0,none⟩ _ AB).trans h0;have aEd:∀(x:Bool) (w:World),(Op.unary .not (.bool x)).run Proofs.Tryz.prog w= .ok (.bool (!x)) w:=λ_ _=>rfl;go_enter_defers Proofs.Tryz.func226,Proofs.Tryz.ntmps226
 go_wp2_with (first|(go_at_call 260;refine(MuLone.lock_free aJs ⟨b,1,none⟩ _ (by go_simp) (by go_simp)).mono ?_;rintro e w' ⟨rfl,rfl⟩)|(go_at_call 225;refine(zM _ 0 _ l0).mono ?_;rintro e w' ⟨rfl,rfl⟩)|(go_at_call 176;refine hd.mono ?_;rintro e w' ⟨⟨v,rfl⟩,hq,g,d,z0,a⟩))
 refine leaves_cons (f:=262) (args:=#[.pointer (some ⟨b,0,none⟩),.bool true]) AB (by simp[go_sem]) ?_;refine(Ys ⟨b,0,none⟩ (.int .u32 0) .returning _ g z0).mono ?_;rintro e c w'' ⟨rfl,rfl,rfl⟩;refine leaves_cons (f:=261) (args:=#[.pointer (some ⟨b,1,none⟩)]) (by simp[settle]) (by simp[go_sem]) ?_;refine(MuLone.unlock_deferred aJs ⟨b,1,none⟩ _ _ ?_ (by simp[a])).mono ?_;.exact(World.cell?_setCell_other _ ⟨b,0,none⟩ ⟨b,1,none⟩ _ AB).trans (by rw[World.cell?_drew];exact d)
 rintro e c w'' ⟨rfl,rfl,rfl⟩;simp[Leaves,settle,results,Proofs.Tryz.results226];exact⟨_,hq,rfl⟩
def aJt(b:Nat)(r:Value)(w:World)(Q:World->Prop)(hd:uA b r w Q)
  (h0:w.cell? ⟨b,0,none⟩=some (.int .u32 0)) (h1:w.cell? ⟨b,1,none⟩=some (.int .i32 0))
  (f0:w.frozen? ⟨b,0,none⟩=false) (f1:w.frozen? ⟨b,1,none⟩=false):
  Calls Proofs.Tryz.prog 175 #[.pointer (some ⟨b,0,none⟩),.func (.func 176) #[r] #[]] w λe w'=>e= .returned (.tuple #[])/\
   ∃w'',Q w''/\w'=(w''.drew.setCell ⟨b,0,none⟩ (.int .u32 1)).setCell ⟨b,1,none⟩ (.int .i32 0):=by
 have aEd:∀(x:Bool) (w:World),(Op.unary .not (.bool x)).run Proofs.Tryz.prog w= .ok (.bool (!x)) w:=λ_ _=>rfl;go_enter Proofs.Tryz.func175,Proofs.Tryz.ntmps175
 go_wp2_with (first|(go_at_call 225;refine(zM _ 0 _ h0).mono ?_;rintro e w' ⟨rfl,rfl⟩)|(go_at_call 226;refine(aAJ b r w Q hd h0 h1 f0 f1).mono ?_;rintro e w' ⟨rfl,w'',hq,rfl⟩))
 go_end0
 exact⟨rfl,w'',hq,rfl⟩
def aEr(x:Value)(w:World):(method 476 278 x "Replace").run Proofs.Tryz.prog w= .ok (350,x) w:=by kernel_rfl
def aEs(b:Nat)(s:Value)(w:World)(Q:World->Prop)(R:Ending->World->Prop)(hd:uA b (.pointer (some ⟨b,0,none⟩)) w Q)
  (h0:w.cell? ⟨b,0,none⟩=some (.int .u32 0)) (h1:w.cell? ⟨b,1,none⟩=some (.int .i32 0))
  (f0:w.frozen? ⟨b,0,none⟩=false) (f1:w.frozen? ⟨b,1,none⟩=false)
  (hq:∀w'',Q w''->∃x,((w''.drew.setCell ⟨b,0,none⟩ (.int .u32 1)).setCell ⟨b,1,none⟩ (.int .i32 0)).cell? ⟨b,3,none⟩=some (.iface 278 x)/\
   Calls Proofs.Tryz.prog 350 #[x,s] ((w''.drew.setCell ⟨b,0,none⟩ (.int .u32 1)).setCell ⟨b,1,none⟩ (.int .i32 0)) λe w'=>(∃v,e= .returned v)/\R e w'):
  Calls Proofs.Tryz.prog 99 #[.pointer (some ⟨b,0,none⟩),s] w R:=by
 have d:∀(fn:Fn) (first cap:Array Value) (w:World),(Instr.makeFunc fn first cap).run Proofs.Tryz.prog w= .ok (.func fn first cap) w:=λ_ _ _ _=>rfl;have Z7:=aEr;go_enter Proofs.Tryz.func99,Proofs.Tryz.ntmps99
 go_wp2_with (first|(go_at_call 175;refine(aJt b _ w Q hd h0 h1 f0 f1).mono ?_;clear hd h0 h1 f0 f1;rintro e w' ⟨rfl,w'',c,a⟩;obtain⟨x,hx,hc⟩:=hq w'' c;rw[<-a] at hx hc;clear hq a)|(go_at_call 350;refine hc.mono ?_;rintro e f ⟨⟨v,rfl⟩,hr⟩))
 exact hr
variable{h:Ai}
def Z_{id:Nat}{v:Ab}(e:Bp h (some 3) (.ptr (some (id,0)))=some v):∃cs,h[id]?=some (.cells cs)/\3<=cs.length/\v= .agg (cs.take 3):=by
 simp only[Bp] at e;split at e
 .rename_i cs hc;simp only[FN] at e;split at e;.rename_i hl;cases e;exact⟨cs,hc,Ac,rfl⟩
  .cases e
 .cases e
def gR{id o:Nat}{v:Ab}{h1:Ai}(hv:v.cells=[v])(e:Dd h 1 (.ptr (some (id,o))) v=some h1):∃cs,h[id]?=some (.cells cs)/\o<cs.length/\h1=h.set id (.cells (cs.set o v)):=by
 simp only[Dd] at e;split at e
 .rename_i cs hc;split at e
  .rename_i hl;have a:o<cs.length:=Ac;have hs:cs.take o++[v]++cs.drop (o+1)=cs.set o v:=by rw[Cc,Ae a];simp
   rw[hv,hs] at e;cases e;exact⟨cs,hc,a,rfl⟩
  .cases e
 .cases e
def cX{cs:List Ab}{a b c:Ab}(e:Ab.agg (cs.take 3)= .agg [a,b,c]):cs[0]?=some a/\cs[1]?=some b/\cs[2]?=some c:=by
 injection e with e
 match cs,e with
 |a'::b'::c'::l,e=>simp at e;simp[e]
 |[_,_],e=>simp at e
 |[_],e=>simp at e
 |[],e=>simp at e
def aAK(n:Nat)(hs:Ft cx (IT.run (Cf cx) n))(args:List Ab)(r:Ab)(h':Ai)(AR:IT.step (Cf cx) (IT.run (Cf cx) n) (Yr 176 350 278 args) h=some (.ret,[r],h')):
  (∃fn c,cx.P.funcs[Fl 99]?=some fn/\(fn.name== "runtime.NumGoroutine")=false/\fn.body=some c)/\
  ∀(U:Gh) (w:World) (cargs:Array Value),It U h w->(∀g cs,cx.HO g=some cs->C8 U cs g 0)->Bc U args cargs.toList->
   Calls cx.P (Fl 99) cargs w λe w'=>match e with
    | .returned v=>∃U',It U' h' w'/\Nb U w U' w'/\BQ U' r v/\(cx.KK 99=true->∃s c,J1 U' w.heap.size w' s c v r)
    |_=>False:=by
 refine⟨⟨_,_,Proofs.Tryz.func99,rfl,rfl⟩,λU w cargs hi hg ha=>?_⟩;unfold Yr at AR;split at AR
 .rename_i id s;simp only[IT.step] at AR;cases T:Bp h (some 3) (.ptr (some (id,0))) with
  |none=>simp[T] at AR
  |some v1=>
  simp only[T] at AR;split at AR
  .rename_i QJ;have QJ:=Ab.beq_eq QJ;cases S:Dd h 1 (.ptr (some (id,1))) (.int .i32 1) with
   |none=>simp[S] at AR
   |some h1=>
   simp only[S] at AR;cases R:IT.run (Cf cx) n (Cf cx 176 [.ptr (some (id,0))]) h1 with
   |none=>simp[R] at AR
   |some R3=>
   simp only[R] at AR;split at AR
   .rename_i r3 h2 Ld;cases Ld;cases Q:Bp h2 (some 3) (.ptr (some (id,0))) with
    |none=>simp[Q] at AR
    |some v4=>
    simp only[Q] at AR;split at AR
    .rename_i d;have d:=Ab.beq_eq d;cases O:Dd h2 1 (.ptr (some (id,0))) (.int .u32 1) with
     |none=>simp[O] at AR
     |some h3=>
     simp only[O] at AR;cases N:Dd h3 1 (.ptr (some (id,1))) (.int .i32 0) with
     |none=>simp[N] at AR
     |some I=>
     simp only[N] at AR;cases M:Bp I none (.ptr (some (id,3))) with
     |none=>simp[M] at AR
     |some v7=>
     simp only[M,Ey] at AR;cases f:tY 278 I [v7] with
     |none=>simp[f] at AR
     |some R8=>
     obtain⟨W,u⟩:=R8;simp only[f] at AR;have K:v7= .iface 278 u/\W=I:=by
      cases v7 with
      |iface t' v=>
       simp only[tY] at f;split at f;.rename_i ht;cases f;subst ht;exact⟨rfl,rfl⟩
       .cases f
      |_=>cases f
     obtain⟨rfl,rfl⟩:=K;cases J:IT.run (Cf cx) n (Cf cx 350 [u,s]) W with
     |none=>simp[J] at AR
     |some R9=>
     simp only[J] at AR;split at AR
     .rename_i r9 h9 Ld;cases Ld;cases AR;obtain⟨cs,aL,qw,rfl⟩:=Z_ T;obtain⟨g0,g1,g2⟩:=cX QJ;obtain⟨Hz,aJv,aNX,rfl⟩:=gR rfl S;rw[aL] at aJv;cases aJv;obtain⟨TE,Mx,uB,rfl⟩:=Z_ Q;obtain⟨k0,Z,k2⟩:=cX d;obtain⟨aT0,aJw,aNY,rfl⟩:=gR rfl O;rw[Mx] at aJw;cases aJw;obtain⟨cs3,cY,xm,rfl⟩:=gR rfl N;have qi:id<h2.length:=(Aj.1 Mx).1;have aT1:id<h.length:=(Aj.1 aL).1;rw[AI qi] at cY;cases cY;have k:((h2.set id (.cells (TE.set 0 (.int .u32 1)))).set id (.cells ((TE.set 0 (.int .u32 1)).set 1 (.int .i32 0))))[id]?=some (.cells ((TE.set 0 (.int .u32 1)).set 1 (.int .i32 0))):=AI (by simpa using qi);have L:((TE.set 0 (.int .u32 1)).set 1 (.int .i32 0))[3]?=some (.iface 278 u):=by simpa only[Bp,k,FN] using M
      obtain⟨v0,us,D,⟨b,hm,rfl⟩,l,DS,rfl,y,hnil⟩:=ha;cases hnil;have a:cargs=#[.pointer (some ⟨b,0,none⟩),l]:=by apply Ia;simpa using D
      subst a;obtain⟨f0,x0,c0,q⟩:=hi.TL aL hm g0;obtain⟨f1,x1,c1,p⟩:=hi.TL aL hm g1;cases q;cases p;obtain⟨uC,U_⟩:=hi.aEq aL hm aNX (u:= .int .i32 1) (v:= .int .i32 1) rfl rfl;refine aEs b l w (λw''=>∃i,It i h2 w''/\Nb U w i w'') _ ?_ c0 c1 f0 f1 ?_
      .refine((hs.2 176 _ _ _ _ R).2 U _ #[.pointer (some ⟨b,0,none⟩)] uC hg ⟨_,_,rfl,⟨b,hm,rfl⟩,rfl⟩).mono λe w' he=>?_;cases e with
       |returned v=>obtain⟨i,cQ,UR,_,_⟩:=he;have Yd:=UR.le.mu _ _ hm;obtain⟨z0,y0,d0,o⟩:=cQ.TL Mx Yd k0;obtain⟨X,y1,d1,m⟩:=cQ.TL Mx Yd Z;cases o;cases m;exact⟨⟨v,rfl⟩,⟨i,cQ,U_.trans UR⟩,d0,d1,z0,X⟩
       |_=>exact he.elim
      .rintro w'' ⟨i,cQ,UR⟩;have Yd:=UR.le.mu _ _ hm;obtain⟨B,H⟩:=cQ.Ni ((Below.refl _ _).drew);obtain⟨A,G⟩:=B.aEq Mx Yd aNY (u:= .int .u32 1) (v:= .int .u32 1) rfl rfl;obtain⟨j,F⟩:=A.aEq (AI qi) Yd xm (u:= .int .i32 0) (v:= .int .i32 0) rfl rfl;obtain⟨_,y3,d3,V,t,Y⟩:=j.TL k Yd L;subst t;refine⟨V,d3,?_⟩;have KQ:=((UR.trans H).trans G).trans F;refine((hs.2 350 _ _ _ _ J).2 i _ #[V,l] j (λg cs C=>C8.mono KQ.le cs g 0 (hg g cs C)) ⟨_,_,rfl,Y,_,_,rfl,BQ.mono KQ.le _ _ y,rfl⟩).mono λe w' he=>?_;cases e with
       |returned v=>obtain⟨U6,z,E,x,_⟩:=he;exact⟨⟨v,rfl⟩,U6,z,KQ.trans E,x,λe=>by cases e⟩
       |_=>exact he.elim
     .cases AR
    .cases AR
   .cases AR
  .cases AR
 .cases AR
end Go.Am
