/- Lemmas -/
import Derived.Test.YtdbnpiefklklhaaGreatDoorH14
import Derived.Conc.MuLone
set_option linter.all false
set_option maxHeartbeats 0
set_option maxRecDepth 100000
namespace Go.Am
open Go Go.RowKit Go.Shelf
section
variable{U U':Gh}{h:Ai}{w w':World}
def Hj.Ŵ(hi:Hj U h w){id g j:Nat}{cs:List Aa}(hcs:h[id]?=some (.cells cs))(hg:U.mu id=some g)(hj:j<cs.length){u:Aa}{v:Value}(hv:BF U u v)(h1:v.oneCell'=true):
  Hj U (h.set id (.cells (cs.set j u))) (w.setCell ⟨g,j,none⟩ v)/\Lx U w U (w.setCell ⟨g,j,none⟩ v):=by
 obtain⟨us,e,fr,p1,p2,d,k⟩:=hi.cells id cs hcs g hg;have hl:cs.length<=us.size:=by have:=d.length;simp at this;omega
 rw[setCell_eq_setRow w g j us e fr v p1];have b:(us.setIfInBounds j v).toList.take (cs.set j u).length=(us.toList.take cs.length).set j v:=by simp[List.take_set]
 refine M0 hi hcs hg p1 _ _ Ax (by simpa using p2) ?_ ?_
 .rw[b];refine AW.GF Ei λi a x ha hx=>?_;by_cases Ğ:j=i;.subst Ğ;rw[AE Ab] at ha;rw[AE Ei] at hx;cases ha;cases hx;exact hv
  .rw[Ao Ğ] at ha hx;obtain⟨x',c,f⟩:=d.get ha;rw[hx] at c;cases c;exact f
 .rw[b];intro x hx;rcases Dv hx with hx|rfl
  .exact k x hx
  .exact h1
def Hj.Sa(hi:Hj U h w){id g j:Nat}{cs:List Aa}{u:Aa}(hcs:h[id]?=some (.cells cs))(hg:U.mu id=some g)(hj:cs[j]?=some u):
  w.frozen? ⟨g,j,none⟩=false/\∃x,w.cell? ⟨g,j,none⟩=some x/\BF U u x:=by
 obtain⟨x,b,_,a⟩:=Nc hi hcs hg hj;obtain⟨us,e,fr,p1,p2,c,d⟩:=hi.cells id cs hcs g hg;have hl:cs.length<=us.size:=by have:=c.length;simp at this;omega
 have:=(Aj.1 hj).1;refine⟨?_,x,b,a⟩;simp only[World.frozen?,p1];rcases p2 with rfl|rL
 .simp
 .simp;omega
end
abbrev aEY:Go.Conc.Locks.MuLink:={lock:=308,unlock:=309,ilock:=318,iunlock:=319,lockSlow:=330,unlockSlow:=333,disable:=326,enable:=328,acquire:=329,relMerge:=331,cas32:=327,add32:=332,tMutex:=298,tIMutex:=296,tPMutex:=344,tPIMutex:=359,tPI32:=361,tUP:=272,tNoCopy:=291,tU32:=228}
open Proofs in
def aEZ:Go.Conc.Locks.MuLib Proofs.Tryz.prog aEY:=
 ⟨Tryz.func308,Tryz.func309,Tryz.func318,Tryz.func319,Tryz.func326,Tryz.func328,Tryz.func329,Tryz.func331,Tryz.func327,Tryz.func332,
  Tryz.underlying296,Tryz.runUnderlying296,Tryz.sizeOf296,Tryz.isAgg296,Tryz.zeroValue296,Tryz.underlying298,Tryz.runUnderlying298,Tryz.sizeOf298,Tryz.isAgg298,Tryz.zeroValue298,
  Tryz.underlying344,Tryz.runUnderlying344,Tryz.sizeOf344,Tryz.isAgg344,Tryz.zeroValue344,Tryz.underlying359,Tryz.runUnderlying359,Tryz.sizeOf359,Tryz.isAgg359,Tryz.zeroValue359,
  Tryz.underlying361,Tryz.runUnderlying361,Tryz.sizeOf361,Tryz.isAgg361,Tryz.zeroValue361,Tryz.underlying272,Tryz.runUnderlying272,Tryz.sizeOf272,Tryz.isAgg272,Tryz.zeroValue272,
  Tryz.underlying291,Tryz.runUnderlying291,Tryz.sizeOf291,Tryz.isAgg291,Tryz.zeroValue291,Tryz.underlying21,Tryz.runUnderlying21,Tryz.sizeOf21,Tryz.isAgg21,Tryz.zeroValue21,AA⟩
def Wu(a:Addr)(x:Value)(u:FrameMode)(w:World)(hc:w.cell? a=some x)(hz:w.frozen? a=false):
  CallsD Proofs.Tryz.prog 310 #[.pointer (some a),.bool true] u w λe b w'=>b=u/\(e= .returned (.tuple #[])/\w'=w.drew.setCell a (.int .u32 1)):=by
 have Ns:w.drew.cell? a=some x:=by go_simp
 have X9:w.drew.frozen? a=false:=by go_simp
 have IK:=run_call_store (P:=Proofs.Tryz.prog) Proofs.Tryz.func320 AA AA AA AA (k:= .u32) (y:=1) Ns X9;go_enter_d Proofs.Tryz.func310,Proofs.Tryz.ntmps310
 go_wp2
 go_region_calls
 all_goals (go_end0;exact⟨rfl,rfl⟩)
def sF(a:Addr)(d:Int)(w:World)(h0:w.cell? a=some (.int .u32 d)):Calls Proofs.Tryz.prog 300 #[.pointer (some a)] w λe w'=>e= .returned (.bool (d != 0))/\w=w':=by
 have hl:=run_call_load (P:=Proofs.Tryz.prog) Proofs.Tryz.func307 AA AA AA .u32 AA h0;go_enter Proofs.Tryz.func300,Proofs.Tryz.ntmps300
 go_wp2
 go_ret
 exact⟨rfl,rfl⟩
abbrev nE(b:Nat)(r:Value)(w:World)(Q:World->Prop):Prop:=
 Calls Proofs.Tryz.prog 296 #[r] (w.setCell ⟨b,1,none⟩ (.int .i32 1)) λe w'=>(∃v,e= .returned v)/\Q w'/\w'.cell? ⟨b,0,none⟩=some (.int .u32 0)/\w'.cell? ⟨b,1,none⟩=some (.int .i32 1)/\w'.frozen? ⟨b,0,none⟩=false/\w'.frozen? ⟨b,1,none⟩=false
def zg(b:Nat)(r:Value)(w:World)(Q:World->Prop)(hd:nE b r w Q)
  (h0:w.cell? ⟨b,0,none⟩=some (.int .u32 0)) (h1:w.cell? ⟨b,1,none⟩=some (.int .i32 0))
  (f0:w.frozen? ⟨b,0,none⟩=false) (f1:w.frozen? ⟨b,1,none⟩=false):
  Calls Proofs.Tryz.prog 301 #[.pointer (some ⟨b,0,none⟩),.func (.func 296) #[r] #[]] w λe w'=>e= .returned (.tuple #[])/\
   ∃w'',Q w''/\w'=(w''.drew.setCell ⟨b,0,none⟩ (.int .u32 1)).setCell ⟨b,1,none⟩ (.int .i32 0):=by
 have l0:(w.setCell ⟨b,1,none⟩ (.int .i32 1)).cell? ⟨b,0,none⟩=some (.int .u32 0):=(World.cell?_setCell_other _ ⟨b,1,none⟩ ⟨b,0,none⟩ _ Ax).trans h0;have ũ:∀(x:Bool) (w:World),(Op.unary .not (.bool x)).run Proofs.Tryz.prog w= .ok (.bool (!x)) w:=λ_ _=>rfl;go_enter_defers Proofs.Tryz.func301,Proofs.Tryz.ntmps301
 go_wp2_with (first|(go_at_call 308;refine(MuLone.lock_free aEZ ⟨b,1,none⟩ _ (by go_simp) (by go_simp)).mono ?_;rintro e w' ⟨rfl,rfl⟩)|(go_at_call 300;refine(sF _ 0 _ l0).mono ?_;rintro e w' ⟨rfl,rfl⟩)|(go_at_call 296;refine hd.mono ?_;rintro e w' ⟨⟨v,rfl⟩,hq,g,d,z0,a⟩))
 refine leaves_cons (f:=310) (args:=#[.pointer (some ⟨b,0,none⟩),.bool true]) Ax (by simp[go_sem]) ?_;refine(Wu ⟨b,0,none⟩ (.int .u32 0) .returning _ g z0).mono ?_;rintro e c w'' ⟨rfl,rfl,rfl⟩;refine leaves_cons (f:=309) (args:=#[.pointer (some ⟨b,1,none⟩)]) (by simp[settle]) (by simp[go_sem]) ?_;refine(MuLone.unlock_deferred aEZ ⟨b,1,none⟩ _ _ ?_ (by simp[a])).mono ?_;.exact(World.cell?_setCell_other _ ⟨b,0,none⟩ ⟨b,1,none⟩ _ Ax).trans (by rw[World.cell?_drew];exact d)
 rintro e c w'' ⟨rfl,rfl,rfl⟩;simp[Leaves,settle,results,Proofs.Tryz.results301];exact⟨_,hq,rfl⟩
def aE0(b:Nat)(r:Value)(w:World)(Q:World->Prop)(hd:nE b r w Q)
  (h0:w.cell? ⟨b,0,none⟩=some (.int .u32 0)) (h1:w.cell? ⟨b,1,none⟩=some (.int .i32 0))
  (f0:w.frozen? ⟨b,0,none⟩=false) (f1:w.frozen? ⟨b,1,none⟩=false):
  Calls Proofs.Tryz.prog 295 #[.pointer (some ⟨b,0,none⟩),.func (.func 296) #[r] #[]] w λe w'=>e= .returned (.tuple #[])/\
   ∃w'',Q w''/\w'=(w''.drew.setCell ⟨b,0,none⟩ (.int .u32 1)).setCell ⟨b,1,none⟩ (.int .i32 0):=by
 have ũ:∀(x:Bool) (w:World),(Op.unary .not (.bool x)).run Proofs.Tryz.prog w= .ok (.bool (!x)) w:=λ_ _=>rfl;go_enter Proofs.Tryz.func295,Proofs.Tryz.ntmps295
 go_wp2_with (first|(go_at_call 300;refine(sF _ 0 _ h0).mono ?_;rintro e w' ⟨rfl,rfl⟩)|(go_at_call 301;refine(zg b r w Q hd h0 h1 f0 f1).mono ?_;rintro e w' ⟨rfl,w'',hq,rfl⟩))
 go_end0
 exact⟨rfl,w'',hq,rfl⟩
def ŵ(x:Value)(w:World):(method 500 340 x "Replace").run Proofs.Tryz.prog w= .ok (367,x) w:=by kernel_rfl
def Ŷ(b:Nat)(s:Value)(w:World)(Q:World->Prop)(R:Ending->World->Prop)(hd:nE b (.pointer (some ⟨b,0,none⟩)) w Q)
  (h0:w.cell? ⟨b,0,none⟩=some (.int .u32 0)) (h1:w.cell? ⟨b,1,none⟩=some (.int .i32 0))
  (f0:w.frozen? ⟨b,0,none⟩=false) (f1:w.frozen? ⟨b,1,none⟩=false)
  (hq:∀w'',Q w''->∃x,((w''.drew.setCell ⟨b,0,none⟩ (.int .u32 1)).setCell ⟨b,1,none⟩ (.int .i32 0)).cell? ⟨b,3,none⟩=some (.iface 340 x)/\
   Calls Proofs.Tryz.prog 367 #[x,s] ((w''.drew.setCell ⟨b,0,none⟩ (.int .u32 1)).setCell ⟨b,1,none⟩ (.int .i32 0)) λe w'=>(∃v,e= .returned v)/\R e w'):
  Calls Proofs.Tryz.prog 285 #[.pointer (some ⟨b,0,none⟩),s] w R:=by
 have c:∀(fn:Fn) (first cap:Array Value) (w:World),(Instr.makeFunc fn first cap).run Proofs.Tryz.prog w= .ok (.func fn first cap) w:=λ_ _ _ _=>rfl;have eX:=ŵ;go_enter Proofs.Tryz.func285,Proofs.Tryz.ntmps285
 go_wp2_with (first|(go_at_call 295;refine(aE0 b _ w Q hd h0 h1 f0 f1).mono ?_;clear hd h0 h1 f0 f1;rintro e w' ⟨rfl,w'',ŷ,a⟩;obtain⟨x,hx,hc⟩:=hq w'' ŷ;rw[<-a] at hx hc;clear hq a)|(go_at_call 367;refine hc.mono ?_;rintro e d ⟨⟨v,rfl⟩,hr⟩))
 exact hr
variable{h:Ai}
def mi{id:Nat}{v:Aa}(e:Bj h (some 3) (.ptr (some (id,0)))=some v):∃cs,h[id]?=some (.cells cs)/\3<=cs.length/\v= .agg (cs.take 3):=by
 simp only[Bj] at e;split at e
 .rename_i cs hc;simp only[E0] at e;split at e;.rename_i hl;cases e;exact⟨cs,hc,Ab,rfl⟩
  .cases e
 .cases e
def bA{id o:Nat}{v:Aa}{h1:Ai}(hv:v.cells=[v])(e:CL h 1 (.ptr (some (id,o))) v=some h1):∃cs,h[id]?=some (.cells cs)/\o<cs.length/\h1=h.set id (.cells (cs.set o v)):=by
 simp only[CL] at e;split at e
 .rename_i cs hc;split at e
  .rename_i hl;have a:o<cs.length:=Ab;have hs:cs.take o++[v]++cs.drop (o+1)=cs.set o v:=by rw[Cv,Af a];simp
   rw[hv,hs] at e;cases e;exact⟨cs,hc,a,rfl⟩
  .cases e
 .cases e
def Zf{cs:List Aa}{a b c:Aa}(e:Aa.agg (cs.take 3)= .agg [a,b,c]):cs[0]?=some a/\cs[1]?=some b/\cs[2]?=some c:=by
 injection e with e
 match cs,e with
 |a'::b'::c'::l,e=>simp at e;simp[e]
 |[_,_],e=>simp at e
 |[_],e=>simp at e
 |[],e=>simp at e
def zh(n:Nat)(hs:EP cx (IT.run (B4 cx) n))(args:List Aa)(r:Aa)(h':Ai)(AI:IT.step (B4 cx) (IT.run (B4 cx) n) (Wp 296 367 340 args) h=some (.ret,[r],h')):
  (∃fn c,cx.P.funcs[Ea 285]?=some fn/\(fn.name== "runtime.NumGoroutine")=false/\fn.body=some c)/\
  ∀(U:Gh) (w:World) (cargs:Array Value),Hj U h w->(∀g cs,cx.GC g=some cs->CQ U cs g 0)->AW U args cargs.toList->
   Calls cx.P (Ea 285) cargs w λe w'=>match e with
    | .returned v=>∃U',Hj U' h' w'/\Lx U w U' w'/\BF U' r v/\(cx.I3 285=true->∃s c,IE U' w.heap.size w' s c v r)
    |_=>False:=by
 refine⟨⟨_,_,Proofs.Tryz.func285,rfl,rfl⟩,λU w cargs hi hg ha=>?_⟩;unfold Wp at AI;split at AI
 .rename_i id s;simp only[IT.step] at AI;cases N:Bj h (some 3) (.ptr (some (id,0))) with
  |none=>simp[N] at AI
  |some v1=>
  simp only[N] at AI;split at AI
  .rename_i S7;have S7:=Aa.beq_eq S7;cases M:CL h 1 (.ptr (some (id,1))) (.int .i32 1) with
   |none=>simp[M] at AI
   |some h1=>
   simp only[M] at AI;cases L:IT.run (B4 cx) n (B4 cx 296 [.ptr (some (id,0))]) h1 with
   |none=>simp[L] at AI
   |some R3=>
   simp only[L] at AI;split at AI
   .rename_i r3 h2 JU;cases JU;cases K:Bj h2 (some 3) (.ptr (some (id,0))) with
    |none=>simp[K] at AI
    |some v4=>
    simp only[K] at AI;split at AI
    .rename_i d;have d:=Aa.beq_eq d;cases J:CL h2 1 (.ptr (some (id,0))) (.int .u32 1) with
     |none=>simp[J] at AI
     |some W=>
     simp only[J] at AI;cases I:CL W 1 (.ptr (some (id,1))) (.int .i32 0) with
     |none=>simp[I] at AI
     |some D=>
     simp only[I] at AI;cases H:Bj D none (.ptr (some (id,3))) with
     |none=>simp[H] at AI
     |some v7=>
     simp only[H,DS] at AI;cases f:nC 340 D [v7] with
     |none=>simp[f] at AI
     |some R8=>
     obtain⟨Q,u⟩:=R8;simp only[f] at AI;have F:v7= .iface 340 u/\Q=D:=by
      cases v7 with
      |iface t' v=>
       simp only[nC] at f;split at f;.rename_i ht;cases f;subst ht;exact⟨rfl,rfl⟩
       .cases f
      |_=>cases f
     obtain⟨rfl,rfl⟩:=F;cases E:IT.run (B4 cx) n (B4 cx 367 [u,s]) Q with
     |none=>simp[E] at AI
     |some R9=>
     simp only[E] at AI;split at AI
     .rename_i r9 h9 JU;cases JU;cases AI;obtain⟨cs,Yg,fA,rfl⟩:=mi N;obtain⟨g0,g1,g2⟩:=Zf S7;obtain⟨GB,aE2,aJB,rfl⟩:=bA rfl M;rw[Yg] at aE2;cases aE2;obtain⟨RU,KX,lS,rfl⟩:=mi K;obtain⟨V,T,k2⟩:=Zf d;obtain⟨aPL,aE3,aJC,rfl⟩:=bA rfl J;rw[KX] at aE3;cases aE3;obtain⟨cs3,Zg,sG,rfl⟩:=bA rfl I;have zX:id<h2.length:=(Aj.1 KX).1;have aPM:id<h.length:=(Aj.1 Yg).1;rw[AE zX] at Zg;cases Zg;have k:((h2.set id (.cells (RU.set 0 (.int .u32 1)))).set id (.cells ((RU.set 0 (.int .u32 1)).set 1 (.int .i32 0))))[id]?=some (.cells ((RU.set 0 (.int .u32 1)).set 1 (.int .i32 0))):=AE (by simpa using zX);have G:((RU.set 0 (.int .u32 1)).set 1 (.int .i32 0))[3]?=some (.iface 340 u):=by simpa only[Bj,k,E0] using H
      obtain⟨v0,us,xe,⟨b,hm,rfl⟩,l,Dk,rfl,č,hnil⟩:=ha;cases hnil;have a:cargs=#[.pointer (some ⟨b,0,none⟩),l]:=by apply Ge;simpa using xe
      subst a;obtain⟨f0,x0,c0,q⟩:=hi.Sa Yg hm g0;obtain⟨f1,x1,c1,p⟩:=hi.Sa Yg hm g1;cases q;cases p;obtain⟨xh,mc⟩:=hi.Ŵ Yg hm aJB (u:= .int .i32 1) (v:= .int .i32 1) rfl rfl;refine Ŷ b l w (λw''=>∃i,Hj i h2 w''/\Lx U w i w'') _ ?_ c0 c1 f0 f1 ?_
      .refine((hs.2 296 _ _ _ _ L).2 U _ #[.pointer (some ⟨b,0,none⟩)] xh hg ⟨_,_,rfl,⟨b,hm,rfl⟩,rfl⟩).mono λe w' he=>?_;cases e with
       |returned v=>obtain⟨i,Uc,RV,_,_⟩:=he;have UQ:=RV.le.mu _ _ hm;obtain⟨z0,y0,Z,o⟩:=Uc.Sa KX UQ V;obtain⟨R,y1,Y,m⟩:=Uc.Sa KX UQ T;cases o;cases m;exact⟨⟨v,rfl⟩,⟨i,Uc,mc.trans RV⟩,Z,Y,z0,R⟩
       |_=>exact he.elim
      .rintro w'' ⟨i,Uc,RV⟩;have UQ:=RV.le.mu _ _ hm;obtain⟨ų,mh⟩:=Uc.KG ((Below.refl _ _).drew);obtain⟨z,C⟩:=ų.Ŵ KX UQ aJC (u:= .int .u32 1) (v:= .int .u32 1) rfl rfl;obtain⟨j,B⟩:=z.Ŵ (AE zX) UQ sG (u:= .int .i32 0) (v:= .int .i32 0) rfl rfl;obtain⟨_,y3,X,O,t,S⟩:=j.Sa k UQ G;subst t;refine⟨O,X,?_⟩;have JB:=((RV.trans mh).trans C).trans B;refine((hs.2 367 _ _ _ _ E).2 i _ #[O,l] j (λg cs Đ=>CQ.mono JB.le cs g 0 (hg g cs Đ)) ⟨_,_,rfl,S,_,_,rfl,BF.mono JB.le _ _ č,rfl⟩).mono λe w' he=>?_;cases e with
       |returned v=>obtain⟨U6,y,A,x,_⟩:=he;exact⟨⟨v,rfl⟩,U6,y,JB.trans A,x,λe=>by cases e⟩
       |_=>exact he.elim
     .cases AI
    .cases AI
   .cases AI
  .cases AI
 .cases AI
end Go.Am
