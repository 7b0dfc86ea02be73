/- Lemmas -/
import Derived.Test.YtljddgipdchkiaaGreatDoorZ14
import Derived.Conc.MuLone
set_option linter.all false
set_option maxHeartbeats 0
set_option maxRecDepth 100000
namespace Go.Am
open Go Go.RowKit Go.Shelf
section
variable{U U':Gh}{h:Ah}{w w':World}
def Hj.aAy(hi:Hj U h w){id g j:Nat}{cs:List Aa}(hcs:h[id]?=some (.cells cs))(hg:U.mu id=some g)(hj:j<cs.length){u:Aa}{v:Value}(hv:BU U u v)(h1:v.oneCell'=true):
  Hj U (h.set id (.cells (cs.set j u))) (w.setCell ⟨g,j,none⟩ v)/\K6 U w U (w.setCell ⟨g,j,none⟩ v):=by
 obtain⟨us,e,fr,k,n,f,m⟩:=hi.cells id cs hcs g hg;have hl:cs.length<=us.size:=by have:=f.length;simp at this;omega
 rw[setCell_eq_setRow w g j us e fr v k];have c:(us.setIfInBounds j v).toList.take (cs.set j u).length=(us.toList.take cs.length).set j v:=by simp[List.take_set]
 refine Nh hi hcs hg k _ _ AK (by simpa using n) ?_ ?_
 .rw[c];refine Bi.Ha Eg λi a x ha hx=>?_;by_cases b:j=i;.subst b;rw[AQ Ab] at ha;rw[AQ Eg] at hx;cases ha;cases hx;exact hv
  .rw[Ao b] at ha hx;obtain⟨x',d,l⟩:=f.get ha;rw[hx] at d;cases d;exact l
 .rw[c];intro x hx;rcases Db hx with hx|rfl
  .exact m x hx
  .exact h1
def Hj.RT(hi:Hj U h w){id g j:Nat}{cs:List Aa}{u:Aa}(hcs:h[id]?=some (.cells cs))(hg:U.mu id=some g)(hj:cs[j]?=some u):
  w.frozen? ⟨g,j,none⟩=false/\∃x,w.cell? ⟨g,j,none⟩=some x/\BU U u x:=by
 obtain⟨x,b,_,a⟩:=Nt hi hcs hg hj;obtain⟨us,e,fr,f,d,c,i⟩:=hi.cells id cs hcs g hg;have hl:cs.length<=us.size:=by have:=c.length;simp at this;omega
 have:=(Ak.1 hj).1;refine⟨?_,x,b,a⟩;simp only[World.frozen?,f];rcases d with rfl|pM
 .simp
 .simp;omega
end
abbrev aFR:Go.Conc.Locks.MuLink:={lock:=442,unlock:=443,ilock:=454,iunlock:=455,lockSlow:=466,unlockSlow:=469,disable:=462,enable:=464,acquire:=465,relMerge:=467,cas32:=463,add32:=468,tMutex:=345,tIMutex:=343,tPMutex:=399,tPIMutex:=416,tPI32:=418,tUP:=317,tNoCopy:=338,tU32:=273}
open Proofs in
def aFS:Go.Conc.Locks.MuLib Proofs.Tryz.prog aFR:=
 ⟨Tryz.func442,Tryz.func443,Tryz.func454,Tryz.func455,Tryz.func462,Tryz.func464,Tryz.func465,Tryz.func467,Tryz.func463,Tryz.func468,
  Tryz.underlying343,Tryz.runUnderlying343,Tryz.sizeOf343,Tryz.isAgg343,Tryz.zeroValue343,Tryz.underlying345,Tryz.runUnderlying345,Tryz.sizeOf345,Tryz.isAgg345,Tryz.zeroValue345,
  Tryz.underlying399,Tryz.runUnderlying399,Tryz.sizeOf399,Tryz.isAgg399,Tryz.zeroValue399,Tryz.underlying416,Tryz.runUnderlying416,Tryz.sizeOf416,Tryz.isAgg416,Tryz.zeroValue416,
  Tryz.underlying418,Tryz.runUnderlying418,Tryz.sizeOf418,Tryz.isAgg418,Tryz.zeroValue418,Tryz.underlying317,Tryz.runUnderlying317,Tryz.sizeOf317,Tryz.isAgg317,Tryz.zeroValue317,
  Tryz.underlying338,Tryz.runUnderlying338,Tryz.sizeOf338,Tryz.isAgg338,Tryz.zeroValue338,Tryz.underlying21,Tryz.runUnderlying21,Tryz.sizeOf21,Tryz.isAgg21,Tryz.zeroValue21,AH⟩
def Wy(a:Addr)(x:Value)(u:FrameMode)(w:World)(hc:w.cell? a=some x)(hz:w.frozen? a=false):
  CallsD Proofs.Tryz.prog 444 #[.pointer (some a),.bool true] u w λe b w'=>b=u/\(e= .returned (.tuple #[])/\w'=w.drew.setCell a (.int .u32 1)):=by
 have KE:w.drew.cell? a=some x:=by go_simp
 have Yc:w.drew.frozen? a=false:=by go_simp
 have HT:=run_call_store (P:=Proofs.Tryz.prog) Proofs.Tryz.func456 AH AH AH AH (k:= .u32) (y:=1) KE Yc;go_enter_d Proofs.Tryz.func444,Proofs.Tryz.ntmps444
 go_wp2
 go_region_calls
 all_goals (go_end0;exact⟨rfl,rfl⟩)
def qE(a:Addr)(d:Int)(w:World)(h0:w.cell? a=some (.int .u32 d)):Calls Proofs.Tryz.prog 433 #[.pointer (some a)] w λe w'=>e= .returned (.bool (d != 0))/\w=w':=by
 have hl:=run_call_load (P:=Proofs.Tryz.prog) Proofs.Tryz.func441 AH AH AH .u32 AH h0;go_enter Proofs.Tryz.func433,Proofs.Tryz.ntmps433
 go_wp2
 go_ret
 exact⟨rfl,rfl⟩
abbrev lO(b:Nat)(r:Value)(w:World)(Q:World->Prop):Prop:=
 Calls Proofs.Tryz.prog 423 #[r] (w.setCell ⟨b,1,none⟩ (.int .i32 1)) λe w'=>(∃v,e= .returned v)/\Q w'/\w'.cell? ⟨b,0,none⟩=some (.int .u32 0)/\w'.cell? ⟨b,1,none⟩=some (.int .i32 1)/\w'.frozen? ⟨b,0,none⟩=false/\w'.frozen? ⟨b,1,none⟩=false
def ua(b:Nat)(r:Value)(w:World)(Q:World->Prop)(hd:lO b r w Q)
  (h0:w.cell? ⟨b,0,none⟩=some (.int .u32 0)) (h1:w.cell? ⟨b,1,none⟩=some (.int .i32 0))
  (f0:w.frozen? ⟨b,0,none⟩=false) (f1:w.frozen? ⟨b,1,none⟩=false):
  Calls Proofs.Tryz.prog 434 #[.pointer (some ⟨b,0,none⟩),.func (.func 423) #[r] #[]] w λe w'=>e= .returned (.tuple #[])/\
   ∃w'',Q w''/\w'=(w''.drew.setCell ⟨b,0,none⟩ (.int .u32 1)).setCell ⟨b,1,none⟩ (.int .i32 0):=by
 have l0:(w.setCell ⟨b,1,none⟩ (.int .i32 1)).cell? ⟨b,0,none⟩=some (.int .u32 0):=(World.cell?_setCell_other _ ⟨b,1,none⟩ ⟨b,0,none⟩ _ AK).trans h0;have aAj:∀(x:Bool) (w:World),(Op.unary .not (.bool x)).run Proofs.Tryz.prog w= .ok (.bool (!x)) w:=λ_ _=>rfl;go_enter_defers Proofs.Tryz.func434,Proofs.Tryz.ntmps434
 go_wp2_with (first|(go_at_call 442;refine(MuLone.lock_free aFS ⟨b,1,none⟩ _ (by go_simp) (by go_simp)).mono ?_;rintro e w' ⟨rfl,rfl⟩)|(go_at_call 433;refine(qE _ 0 _ l0).mono ?_;rintro e w' ⟨rfl,rfl⟩)|(go_at_call 423;refine hd.mono ?_;rintro e w' ⟨⟨v,rfl⟩,hq,g,d,z0,a⟩))
 refine leaves_cons (f:=444) (args:=#[.pointer (some ⟨b,0,none⟩),.bool true]) AK (by simp[go_sem]) ?_;refine(Wy ⟨b,0,none⟩ (.int .u32 0) .returning _ g z0).mono ?_;rintro e c w'' ⟨rfl,rfl,rfl⟩;refine leaves_cons (f:=443) (args:=#[.pointer (some ⟨b,1,none⟩)]) (by simp[settle]) (by simp[go_sem]) ?_;refine(MuLone.unlock_deferred aFS ⟨b,1,none⟩ _ _ ?_ (by simp[a])).mono ?_;.exact(World.cell?_setCell_other _ ⟨b,0,none⟩ ⟨b,1,none⟩ _ AK).trans (by rw[World.cell?_drew];exact d)
 rintro e c w'' ⟨rfl,rfl,rfl⟩;simp[Leaves,settle,results,Proofs.Tryz.results434];exact⟨_,hq,rfl⟩
def aFT(b:Nat)(r:Value)(w:World)(Q:World->Prop)(hd:lO b r w Q)
  (h0:w.cell? ⟨b,0,none⟩=some (.int .u32 0)) (h1:w.cell? ⟨b,1,none⟩=some (.int .i32 0))
  (f0:w.frozen? ⟨b,0,none⟩=false) (f1:w.frozen? ⟨b,1,none⟩=false):
  Calls Proofs.Tryz.prog 422 #[.pointer (some ⟨b,0,none⟩),.func (.func 423) #[r] #[]] w λe w'=>e= .returned (.tuple #[])/\
   ∃w'',Q w''/\w'=(w''.drew.setCell ⟨b,0,none⟩ (.int .u32 1)).setCell ⟨b,1,none⟩ (.int .i32 0):=by
 have aAj:∀(x:Bool) (w:World),(Op.unary .not (.bool x)).run Proofs.Tryz.prog w= .ok (.bool (!x)) w:=λ_ _=>rfl;go_enter Proofs.Tryz.func422,Proofs.Tryz.ntmps422
 go_wp2_with (first|(go_at_call 433;refine(qE _ 0 _ h0).mono ?_;rintro e w' ⟨rfl,rfl⟩)|(go_at_call 434;refine(ua b r w Q hd h0 h1 f0 f1).mono ?_;rintro e w' ⟨rfl,w'',hq,rfl⟩))
 go_end0
 exact⟨rfl,w'',hq,rfl⟩
def aAz(x:Value)(w:World):(method 557 384 x "Replace").run Proofs.Tryz.prog w= .ok (503,x) w:=by kernel_rfl
def aAA(b:Nat)(s:Value)(w:World)(Q:World->Prop)(R:Ending->World->Prop)(hd:lO b (.pointer (some ⟨b,0,none⟩)) w Q)
  (h0:w.cell? ⟨b,0,none⟩=some (.int .u32 0)) (h1:w.cell? ⟨b,1,none⟩=some (.int .i32 0))
  (f0:w.frozen? ⟨b,0,none⟩=false) (f1:w.frozen? ⟨b,1,none⟩=false)
  (hq:∀w'',Q w''->∃x,((w''.drew.setCell ⟨b,0,none⟩ (.int .u32 1)).setCell ⟨b,1,none⟩ (.int .i32 0)).cell? ⟨b,3,none⟩=some (.iface 384 x)/\
   Calls Proofs.Tryz.prog 503 #[x,s] ((w''.drew.setCell ⟨b,0,none⟩ (.int .u32 1)).setCell ⟨b,1,none⟩ (.int .i32 0)) λe w'=>(∃v,e= .returned v)/\R e w'):
  Calls Proofs.Tryz.prog 394 #[.pointer (some ⟨b,0,none⟩),s] w R:=by
 have c:∀(fn:Fn) (first cap:Array Value) (w:World),(Instr.makeFunc fn first cap).run Proofs.Tryz.prog w= .ok (.func fn first cap) w:=λ_ _ _ _=>rfl;have UI:=aAz;go_enter Proofs.Tryz.func394,Proofs.Tryz.ntmps394
 go_wp2_with (first|(go_at_call 422;refine(aFT b _ w Q hd h0 h1 f0 f1).mono ?_;clear hd h0 h1 f0 f1;rintro e w' ⟨rfl,w'',g_,a⟩;obtain⟨x,hx,hc⟩:=hq w'' g_;rw[<-a] at hx hc;clear hq a)|(go_at_call 503;refine hc.mono ?_;rintro e d ⟨⟨v,rfl⟩,hr⟩))
 exact hr
variable{h:Ah}
def h_{id:Nat}{v:Aa}(e:Bg h (some 3) (.ptr (some (id,0)))=some v):∃cs,h[id]?=some (.cells cs)/\3<=cs.length/\v= .agg (cs.take 3):=by
 simp only[Bg] at e;split at e
 .rename_i cs hc;simp only[Ft] at e;split at e;.rename_i hl;cases e;exact⟨cs,hc,Ab,rfl⟩
  .cases e
 .cases e
def aJ{id o:Nat}{v:Aa}{h1:Ah}(hv:v.cells=[v])(e:Cw h 1 (.ptr (some (id,o))) v=some h1):∃cs,h[id]?=some (.cells cs)/\o<cs.length/\h1=h.set id (.cells (cs.set o v)):=by
 simp only[Cw] at e;split at e
 .rename_i cs hc;split at e
  .rename_i hl;have a:o<cs.length:=Ab;have hs:cs.take o++[v]++cs.drop (o+1)=cs.set o v:=by rw[B2,Ae a];simp
   rw[hv,hs] at e;cases e;exact⟨cs,hc,a,rfl⟩
  .cases e
 .cases e
def Y7{cs:List Aa}{a b c:Aa}(e:Aa.agg (cs.take 3)= .agg [a,b,c]):cs[0]?=some a/\cs[1]?=some b/\cs[2]?=some c:=by
 injection e with e
 match cs,e with
 |a'::b'::c'::l,e=>simp at e;simp[e]
 |[_,_],e=>simp at e
 |[_],e=>simp at e
 |[],e=>simp at e
def ub(n:Nat)(hs:Fg cx (IT.run (Cd cx) n))(args:List Aa)(r:Aa)(h':Ah)(A3:IT.step (Cd cx) (IT.run (Cd cx) n) (Wx 423 503 384 args) h=some (.ret,[r],h')):
  (∃fn c,cx.P.funcs[EE 394]?=some fn/\(fn.name== "runtime.NumGoroutine")=false/\fn.body=some c)/\
  ∀(U:Gh) (w:World) (cargs:Array Value),Hj U h w->(∀g cs,cx.GY g=some cs->C4 U cs g 0)->Bi U args cargs.toList->
   Calls cx.P (EE 394) cargs w λe w'=>match e with
    | .returned v=>∃U',Hj U' h' w'/\K6 U w U' w'/\BU U' r v/\(cx.Jb 394=true->∃s c,IQ U' w.heap.size w' s c v r)
    |_=>False:=by
 refine⟨⟨_,_,Proofs.Tryz.func394,rfl,rfl⟩,λU w cargs hi hg ha=>?_⟩;unfold Wx at A3;split at A3
 .rename_i id s;simp only[IT.step] at A3;cases N:Bg h (some 3) (.ptr (some (id,0))) with
  |none=>simp[N] at A3
  |some v1=>
  simp only[N] at A3;split at A3
  .rename_i SP;have SP:=Aa.beq_eq SP;cases M:Cw h 1 (.ptr (some (id,1))) (.int .i32 1) with
   |none=>simp[M] at A3
   |some h1=>
   simp only[M] at A3;cases L:IT.run (Cd cx) n (Cd cx 423 [.ptr (some (id,0))]) h1 with
   |none=>simp[L] at A3
   |some R3=>
   simp only[L] at A3;split at A3
   .rename_i r3 h2 Kp;cases Kp;cases K:Bg h2 (some 3) (.ptr (some (id,0))) with
    |none=>simp[K] at A3
    |some v4=>
    simp only[K] at A3;split at A3
    .rename_i d;have d:=Aa.beq_eq d;cases J:Cw h2 1 (.ptr (some (id,0))) (.int .u32 1) with
     |none=>simp[J] at A3
     |some W=>
     simp only[J] at A3;cases I:Cw W 1 (.ptr (some (id,1))) (.int .i32 0) with
     |none=>simp[I] at A3
     |some D=>
     simp only[I] at A3;cases H:Bg D none (.ptr (some (id,3))) with
     |none=>simp[H] at A3
     |some v7=>
     simp only[H,E5] at A3;cases f:lL 384 D [v7] with
     |none=>simp[f] at A3
     |some R8=>
     obtain⟨Q,u⟩:=R8;simp only[f] at A3;have F:v7= .iface 384 u/\Q=D:=by
      cases v7 with
      |iface t' v=>
       simp only[lL] at f;split at f;.rename_i ht;cases f;subst ht;exact⟨rfl,rfl⟩
       .cases f
      |_=>cases f
     obtain⟨rfl,rfl⟩:=F;cases E:IT.run (Cd cx) n (Cd cx 503 [u,s]) Q with
     |none=>simp[E] at A3
     |some R9=>
     simp only[E] at A3;split at A3
     .rename_i r9 h9 Kp;cases Kp;cases A3;obtain⟨cs,Rm,Vr,rfl⟩:=h_ N;obtain⟨g0,g1,g2⟩:=Y7 SP;obtain⟨GW,aFV,aMQ,rfl⟩:=aJ rfl M;rw[Rm] at aFV;cases aFV;obtain⟨RM,IS,Y8,rfl⟩:=h_ K;obtain⟨V,T,k2⟩:=Y7 d;obtain⟨aSZ,aFW,aMR,rfl⟩:=aJ rfl J;rw[IS] at aFW;cases aFW;obtain⟨cs3,Nc,dS,rfl⟩:=aJ rfl I;have xO:id<h2.length:=(Ak.1 IS).1;have aS0:id<h.length:=(Ak.1 Rm).1;rw[AQ xO] at Nc;cases Nc;have k:((h2.set id (.cells (RM.set 0 (.int .u32 1)))).set id (.cells ((RM.set 0 (.int .u32 1)).set 1 (.int .i32 0))))[id]?=some (.cells ((RM.set 0 (.int .u32 1)).set 1 (.int .i32 0))):=AQ (by simpa using xO);have G:((RM.set 0 (.int .u32 1)).set 1 (.int .i32 0))[3]?=some (.iface 384 u):=by simpa only[Bg,k,Ft] using H
      obtain⟨v0,us,Ĩ,⟨b,hm,rfl⟩,l,DM,rfl,Ģ,hnil⟩:=ha;cases hnil;have a:cargs=#[.pointer (some ⟨b,0,none⟩),l]:=by apply HA;simpa using Ĩ
      subst a;obtain⟨f0,x0,c0,q⟩:=hi.RT Rm hm g0;obtain⟨f1,x1,c1,p⟩:=hi.RT Rm hm g1;cases q;cases p;obtain⟨UM,Yn⟩:=hi.aAy Rm hm aMQ (u:= .int .i32 1) (v:= .int .i32 1) rfl rfl;refine aAA b l w (λw''=>∃i,Hj i h2 w''/\K6 U w i w'') _ ?_ c0 c1 f0 f1 ?_
      .refine((hs.2 423 _ _ _ _ L).2 U _ #[.pointer (some ⟨b,0,none⟩)] UM hg ⟨_,_,rfl,⟨b,hm,rfl⟩,rfl⟩).mono λe w' he=>?_;cases e with
       |returned v=>obtain⟨i,Vl,OP,_,_⟩:=he;have UG:=OP.le.mu _ _ hm;obtain⟨z0,y0,Z,o⟩:=Vl.RT IS UG V;obtain⟨R,y1,Y,m⟩:=Vl.RT IS UG T;cases o;cases m;exact⟨⟨v,rfl⟩,⟨i,Vl,Yn.trans OP⟩,Z,Y,z0,R⟩
       |_=>exact he.elim
      .rintro w'' ⟨i,Vl,OP⟩;have UG:=OP.le.mu _ _ hm;obtain⟨tv,lN⟩:=Vl.Lb ((Below.refl _ _).drew);obtain⟨z,C⟩:=tv.aAy IS UG aMR (u:= .int .u32 1) (v:= .int .u32 1) rfl rfl;obtain⟨j,B⟩:=z.aAy (AQ xO) UG dS (u:= .int .i32 0) (v:= .int .i32 0) rfl rfl;obtain⟨_,y3,X,O,t,S⟩:=j.RT k UG G;subst t;refine⟨O,X,?_⟩;have Ka:=((OP.trans lN).trans C).trans B;refine((hs.2 503 _ _ _ _ E).2 i _ #[O,l] j (λg cs ĥ=>C4.mono Ka.le cs g 0 (hg g cs ĥ)) ⟨_,_,rfl,S,_,_,rfl,BU.mono Ka.le _ _ Ģ,rfl⟩).mono λe w' he=>?_;cases e with
       |returned v=>obtain⟨U6,y,A,x,_⟩:=he;exact⟨⟨v,rfl⟩,U6,y,Ka.trans A,x,λe=>by cases e⟩
       |_=>exact he.elim
     .cases A3
    .cases A3
   .cases A3
  .cases A3
 .cases A3
end Go.Am
