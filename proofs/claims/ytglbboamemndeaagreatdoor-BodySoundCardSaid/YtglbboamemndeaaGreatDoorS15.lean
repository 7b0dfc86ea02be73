/- Lemmas -/
import Derived.Test.YtglbboamemndeaaGreatDoorS14
import Derived.Conc.MuLone
set_option linter.all false
set_option maxHeartbeats 0
set_option maxRecDepth 100000
namespace Go.Am
open Go Go.RowKit Go.Shelf
section
variable{U U':Gh}{h:Ai}{w w':World}
def Hw.ļ(hi:Hw U h w){id g j:Nat}{cs:List Aa}(hcs:h[id]?=some (.cells cs))(hg:U.mu id=some g)(hj:j<cs.length){u:Aa}{v:Value}(hv:BH U u v)(h1:v.oneCell'=true):
  Hw U (h.set id (.cells (cs.set j u))) (w.setCell ⟨g,j,none⟩ v)/\LR U w U (w.setCell ⟨g,j,none⟩ v):=by
 obtain⟨us,e,fr,k,n,f,m⟩:=hi.cells id cs hcs g hg;have hl:cs.length<=us.size:=by have:=f.length;simp at this;omega
 rw[setCell_eq_setRow w g j us e fr v k];have c:(us.setIfInBounds j v).toList.take (cs.set j u).length=(us.toList.take cs.length).set j v:=by simp[List.take_set]
 refine Nb hi hcs hg k _ _ Ax (by simpa using n) ?_ ?_
 .rw[c];refine AX.GD Ek λi a x ha hx=>?_;by_cases b:j=i;.subst b;rw[AD Ac] at ha;rw[AD Ek] at hx;cases ha;cases hx;exact hv
  .rw[Ap b] at ha hx;obtain⟨x',d,l⟩:=f.get ha;rw[hx] at d;cases d;exact l
 .rw[c];intro x hx;rcases DA hx with hx|rfl
  .exact m x hx
  .exact h1
def Hw.R2(hi:Hw U h w){id g j:Nat}{cs:List Aa}{u:Aa}(hcs:h[id]?=some (.cells cs))(hg:U.mu id=some g)(hj:cs[j]?=some u):
  w.frozen? ⟨g,j,none⟩=false/\∃x,w.cell? ⟨g,j,none⟩=some x/\BH U u x:=by
 obtain⟨x,b,_,a⟩:=No hi hcs hg hj;obtain⟨us,e,fr,f,d,c,i⟩:=hi.cells id cs hcs g hg;have hl:cs.length<=us.size:=by have:=c.length;simp at this;omega
 have:=(Al.1 hj).1;refine⟨?_,x,b,a⟩;simp only[World.frozen?,f];rcases d with rfl|vW
 .simp
 .simp;omega
end
abbrev aCr:Go.Conc.Locks.MuLink:={lock:=306,unlock:=307,ilock:=316,iunlock:=317,lockSlow:=328,unlockSlow:=331,disable:=324,enable:=326,acquire:=327,relMerge:=329,cas32:=325,add32:=330,tMutex:=290,tIMutex:=288,tPMutex:=341,tPIMutex:=356,tPI32:=358,tUP:=267,tNoCopy:=283,tU32:=217}
open Proofs in
def aCs:Go.Conc.Locks.MuLib Proofs.Tryz.prog aCr:=
 ⟨Tryz.func306,Tryz.func307,Tryz.func316,Tryz.func317,Tryz.func324,Tryz.func326,Tryz.func327,Tryz.func329,Tryz.func325,Tryz.func330,
  Tryz.underlying288,Tryz.runUnderlying288,Tryz.sizeOf288,Tryz.isAgg288,Tryz.zeroValue288,Tryz.underlying290,Tryz.runUnderlying290,Tryz.sizeOf290,Tryz.isAgg290,Tryz.zeroValue290,
  Tryz.underlying341,Tryz.runUnderlying341,Tryz.sizeOf341,Tryz.isAgg341,Tryz.zeroValue341,Tryz.underlying356,Tryz.runUnderlying356,Tryz.sizeOf356,Tryz.isAgg356,Tryz.zeroValue356,
  Tryz.underlying358,Tryz.runUnderlying358,Tryz.sizeOf358,Tryz.isAgg358,Tryz.zeroValue358,Tryz.underlying267,Tryz.runUnderlying267,Tryz.sizeOf267,Tryz.isAgg267,Tryz.zeroValue267,
  Tryz.underlying283,Tryz.runUnderlying283,Tryz.sizeOf283,Tryz.isAgg283,Tryz.zeroValue283,Tryz.underlying21,Tryz.runUnderlying21,Tryz.sizeOf21,Tryz.isAgg21,Tryz.zeroValue21,C4⟩
def WO(a:Addr)(x:Value)(u:FrameMode)(w:World)(hc:w.cell? a=some x)(hz:w.frozen? a=false):
  CallsD Proofs.Tryz.prog 308 #[.pointer (some a),.bool true] u w λe b w'=>b=u/\(e= .returned (.tuple #[])/\w'=w.drew.setCell a (.int .u32 1)):=by
 have OZ:w.drew.cell? a=some x:=by go_simp
 have YC:w.drew.frozen? a=false:=by go_simp
 have IM:=run_call_store (P:=Proofs.Tryz.prog) Proofs.Tryz.func318 C4 C4 C4 C4 (k:= .u32) (y:=1) OZ YC;go_enter_d Proofs.Tryz.func308,Proofs.Tryz.ntmps308
 go_wp2
 go_region_calls
 all_goals (go_end0;exact⟨rfl,rfl⟩)
def wN(a:Addr)(d:Int)(w:World)(h0:w.cell? a=some (.int .u32 d)):Calls Proofs.Tryz.prog 296 #[.pointer (some a)] w λe w'=>e= .returned (.bool (d != 0))/\w=w':=by
 have hl:=run_call_load (P:=Proofs.Tryz.prog) Proofs.Tryz.func305 C4 C4 C4 .u32 C4 h0;go_enter Proofs.Tryz.func296,Proofs.Tryz.ntmps296
 go_wp2
 go_ret
 exact⟨rfl,rfl⟩
abbrev qY(b:Nat)(r:Value)(w:World)(Q:World->Prop):Prop:=
 Calls Proofs.Tryz.prog 293 #[r] (w.setCell ⟨b,1,none⟩ (.int .i32 1)) λe w'=>(∃v,e= .returned v)/\Q w'/\w'.cell? ⟨b,0,none⟩=some (.int .u32 0)/\w'.cell? ⟨b,1,none⟩=some (.int .i32 1)/\w'.frozen? ⟨b,0,none⟩=false/\w'.frozen? ⟨b,1,none⟩=false
def yf(b:Nat)(r:Value)(w:World)(Q:World->Prop)(hd:qY b r w Q)
  (h0:w.cell? ⟨b,0,none⟩=some (.int .u32 0)) (h1:w.cell? ⟨b,1,none⟩=some (.int .i32 0))
  (f0:w.frozen? ⟨b,0,none⟩=false) (f1:w.frozen? ⟨b,1,none⟩=false):
  Calls Proofs.Tryz.prog 297 #[.pointer (some ⟨b,0,none⟩),.func (.func 293) #[r] #[]] w λe w'=>e= .returned (.tuple #[])/\
   ∃w'',Q w''/\w'=(w''.drew.setCell ⟨b,0,none⟩ (.int .u32 1)).setCell ⟨b,1,none⟩ (.int .i32 0):=by
 have l0:(w.setCell ⟨b,1,none⟩ (.int .i32 1)).cell? ⟨b,0,none⟩=some (.int .u32 0):=(World.cell?_setCell_other _ ⟨b,1,none⟩ ⟨b,0,none⟩ _ Ax).trans h0;have ı:∀(x:Bool) (w:World),(Op.unary .not (.bool x)).run Proofs.Tryz.prog w= .ok (.bool (!x)) w:=λ_ _=>rfl;go_enter_defers Proofs.Tryz.func297,Proofs.Tryz.ntmps297
 go_wp2_with (first|(go_at_call 306;refine(MuLone.lock_free aCs ⟨b,1,none⟩ _ (by go_simp) (by go_simp)).mono ?_;rintro e w' ⟨rfl,rfl⟩)|(go_at_call 296;refine(wN _ 0 _ l0).mono ?_;rintro e w' ⟨rfl,rfl⟩)|(go_at_call 293;refine hd.mono ?_;rintro e w' ⟨⟨v,rfl⟩,hq,g,d,z0,a⟩))
 refine leaves_cons (f:=308) (args:=#[.pointer (some ⟨b,0,none⟩),.bool true]) Ax (by simp[go_sem]) ?_;refine(WO ⟨b,0,none⟩ (.int .u32 0) .returning _ g z0).mono ?_;rintro e c w'' ⟨rfl,rfl,rfl⟩;refine leaves_cons (f:=307) (args:=#[.pointer (some ⟨b,1,none⟩)]) (by simp[settle]) (by simp[go_sem]) ?_;refine(MuLone.unlock_deferred aCs ⟨b,1,none⟩ _ _ ?_ (by simp[a])).mono ?_;.exact(World.cell?_setCell_other _ ⟨b,0,none⟩ ⟨b,1,none⟩ _ Ax).trans (by rw[World.cell?_drew];exact d)
 rintro e c w'' ⟨rfl,rfl,rfl⟩;simp[Leaves,settle,results,Proofs.Tryz.results297];exact⟨_,hq,rfl⟩
def aCt(b:Nat)(r:Value)(w:World)(Q:World->Prop)(hd:qY b r w Q)
  (h0:w.cell? ⟨b,0,none⟩=some (.int .u32 0)) (h1:w.cell? ⟨b,1,none⟩=some (.int .i32 0))
  (f0:w.frozen? ⟨b,0,none⟩=false) (f1:w.frozen? ⟨b,1,none⟩=false):
  Calls Proofs.Tryz.prog 292 #[.pointer (some ⟨b,0,none⟩),.func (.func 293) #[r] #[]] w λe w'=>e= .returned (.tuple #[])/\
   ∃w'',Q w''/\w'=(w''.drew.setCell ⟨b,0,none⟩ (.int .u32 1)).setCell ⟨b,1,none⟩ (.int .i32 0):=by
 have ı:∀(x:Bool) (w:World),(Op.unary .not (.bool x)).run Proofs.Tryz.prog w= .ok (.bool (!x)) w:=λ_ _=>rfl;go_enter Proofs.Tryz.func292,Proofs.Tryz.ntmps292
 go_wp2_with (first|(go_at_call 296;refine(wN _ 0 _ h0).mono ?_;rintro e w' ⟨rfl,rfl⟩)|(go_at_call 297;refine(yf b r w Q hd h0 h1 f0 f1).mono ?_;rintro e w' ⟨rfl,w'',hq,rfl⟩))
 go_end0
 exact⟨rfl,w'',hq,rfl⟩
def Ľ(x:Value)(w:World):(method 497 335 x "Replace").run Proofs.Tryz.prog w= .ok (367,x) w:=by kernel_rfl
def ľ(b:Nat)(s:Value)(w:World)(Q:World->Prop)(R:Ending->World->Prop)(hd:qY b (.pointer (some ⟨b,0,none⟩)) w Q)
  (h0:w.cell? ⟨b,0,none⟩=some (.int .u32 0)) (h1:w.cell? ⟨b,1,none⟩=some (.int .i32 0))
  (f0:w.frozen? ⟨b,0,none⟩=false) (f1:w.frozen? ⟨b,1,none⟩=false)
  (hq:∀w'',Q w''->∃x,((w''.drew.setCell ⟨b,0,none⟩ (.int .u32 1)).setCell ⟨b,1,none⟩ (.int .i32 0)).cell? ⟨b,3,none⟩=some (.iface 335 x)/\
   Calls Proofs.Tryz.prog 367 #[x,s] ((w''.drew.setCell ⟨b,0,none⟩ (.int .u32 1)).setCell ⟨b,1,none⟩ (.int .i32 0)) λe w'=>(∃v,e= .returned v)/\R e w'):
  Calls Proofs.Tryz.prog 281 #[.pointer (some ⟨b,0,none⟩),s] w R:=by
 have c:∀(fn:Fn) (first cap:Array Value) (w:World),(Instr.makeFunc fn first cap).run Proofs.Tryz.prog w= .ok (.func fn first cap) w:=λ_ _ _ _=>rfl;have kF:=Ľ;go_enter Proofs.Tryz.func281,Proofs.Tryz.ntmps281
 go_wp2_with (first|(go_at_call 292;refine(aCt b _ w Q hd h0 h1 f0 f1).mono ?_;clear hd h0 h1 f0 f1;rintro e w' ⟨rfl,w'',Ŀ,a⟩;obtain⟨x,hx,hc⟩:=hq w'' Ŀ;rw[<-a] at hx hc;clear hq a)|(go_at_call 367;refine hc.mono ?_;rintro e d ⟨⟨v,rfl⟩,hr⟩))
 exact hr
variable{h:Ai}
def mh{id:Nat}{v:Aa}(e:Bd h (some 3) (.ptr (some (id,0)))=some v):∃cs,h[id]?=some (.cells cs)/\3<=cs.length/\v= .agg (cs.take 3):=by
 simp only[Bd] at e;split at e
 .rename_i cs hc;simp only[E8] at e;split at e;.rename_i hl;cases e;exact⟨cs,hc,Ac,rfl⟩
  .cases e
 .cases e
def bR{id o:Nat}{v:Aa}{h1:Ai}(hv:v.cells=[v])(e:CK h 1 (.ptr (some (id,o))) v=some h1):∃cs,h[id]?=some (.cells cs)/\o<cs.length/\h1=h.set id (.cells (cs.set o v)):=by
 simp only[CK] at e;split at e
 .rename_i cs hc;split at e
  .rename_i hl;have a:o<cs.length:=Ac;have hs:cs.take o++[v]++cs.drop (o+1)=cs.set o v:=by rw[Ce,Ag a];simp
   rw[hv,hs] at e;cases e;exact⟨cs,hc,a,rfl⟩
  .cases e
 .cases e
def ZE{cs:List Aa}{a b c:Aa}(e:Aa.agg (cs.take 3)= .agg [a,b,c]):cs[0]?=some a/\cs[1]?=some b/\cs[2]?=some c:=by
 injection e with e
 match cs,e with
 |a'::b'::c'::l,e=>simp at e;simp[e]
 |[_,_],e=>simp at e
 |[_],e=>simp at e
 |[],e=>simp at e
def yg(n:Nat)(hs:EV cx (IT.run (BZ cx) n))(args:List Aa)(r:Aa)(h':Ai)(AH:IT.step (BZ cx) (IT.run (BZ cx) n) (WN 293 367 335 args) h=some (.ret,[r],h')):
  (∃fn c,cx.P.funcs[EO 281]?=some fn/\(fn.name== "runtime.NumGoroutine")=false/\fn.body=some c)/\
  ∀(U:Gh) (w:World) (cargs:Array Value),Hw U h w->(∀g cs,cx.GN g=some cs->CQ U cs g 0)->AX U args cargs.toList->
   Calls cx.P (EO 281) cargs w λe w'=>match e with
    | .returned v=>∃U',Hw U' h' w'/\LR U w U' w'/\BH U' r v/\(cx.JA 281=true->∃s c,IP U' w.heap.size w' s c v r)
    |_=>False:=by
 refine⟨⟨_,_,Proofs.Tryz.func281,rfl,rfl⟩,λU w cargs hi hg ha=>?_⟩;unfold WN at AH;split at AH
 .rename_i id s;simp only[IT.step] at AH;cases N:Bd h (some 3) (.ptr (some (id,0))) with
  |none=>simp[N] at AH
  |some v1=>
  simp only[N] at AH;split at AH
  .rename_i S6;have S6:=Aa.beq_eq S6;cases M:CK h 1 (.ptr (some (id,1))) (.int .i32 1) with
   |none=>simp[M] at AH
   |some h1=>
   simp only[M] at AH;cases L:IT.run (BZ cx) n (BZ cx 293 [.ptr (some (id,0))]) h1 with
   |none=>simp[L] at AH
   |some R3=>
   simp only[L] at AH;split at AH
   .rename_i r3 h2 Kb;cases Kb;cases K:Bd h2 (some 3) (.ptr (some (id,0))) with
    |none=>simp[K] at AH
    |some v4=>
    simp only[K] at AH;split at AH
    .rename_i d;have d:=Aa.beq_eq d;cases J:CK h2 1 (.ptr (some (id,0))) (.int .u32 1) with
     |none=>simp[J] at AH
     |some W=>
     simp only[J] at AH;cases I:CK W 1 (.ptr (some (id,1))) (.int .i32 0) with
     |none=>simp[I] at AH
     |some D=>
     simp only[I] at AH;cases H:Bd D none (.ptr (some (id,3))) with
     |none=>simp[H] at AH
     |some v7=>
     simp only[H,DZ] at AH;cases f:qW 335 D [v7] with
     |none=>simp[f] at AH
     |some R8=>
     obtain⟨Q,u⟩:=R8;simp only[f] at AH;have F:v7= .iface 335 u/\Q=D:=by
      cases v7 with
      |iface t' v=>
       simp only[qW] at f;split at f;.rename_i ht;cases f;subst ht;exact⟨rfl,rfl⟩
       .cases f
      |_=>cases f
     obtain⟨rfl,rfl⟩:=F;cases E:IT.run (BZ cx) n (BZ cx 367 [u,s]) Q with
     |none=>simp[E] at AH
     |some R9=>
     simp only[E] at AH;split at AH
     .rename_i r9 h9 Kb;cases Kb;cases AH;obtain⟨cs,YJ,az,rfl⟩:=mh N;obtain⟨g0,g1,g2⟩:=ZE S6;obtain⟨GB,aCv,aG7,rfl⟩:=bR rfl M;rw[YJ] at aCv;cases aCv;obtain⟨RU,KS,pF,rfl⟩:=mh K;obtain⟨V,T,k2⟩:=ZE d;obtain⟨aMn,aCw,aG8,rfl⟩:=bR rfl J;rw[KS] at aCw;cases aCw;obtain⟨cs3,YO,gh,rfl⟩:=bR rfl I;have zZ:id<h2.length:=(Al.1 KS).1;have aMo:id<h.length:=(Al.1 YJ).1;rw[AD zZ] at YO;cases YO;have k:((h2.set id (.cells (RU.set 0 (.int .u32 1)))).set id (.cells ((RU.set 0 (.int .u32 1)).set 1 (.int .i32 0))))[id]?=some (.cells ((RU.set 0 (.int .u32 1)).set 1 (.int .i32 0))):=AD (by simpa using zZ);have G:((RU.set 0 (.int .u32 1)).set 1 (.int .i32 0))[3]?=some (.iface 335 u):=by simpa only[Bd,k,E8] using H
      obtain⟨v0,us,Ù,⟨b,hm,rfl⟩,l,Dq,rfl,Ò,hnil⟩:=ha;cases hnil;have a:cargs=#[.pointer (some ⟨b,0,none⟩),l]:=by apply Hi;simpa using Ù
      subst a;obtain⟨f0,x0,c0,q⟩:=hi.R2 YJ hm g0;obtain⟨f1,x1,c1,p⟩:=hi.R2 YJ hm g1;cases q;cases p;obtain⟨vz,mb⟩:=hi.ļ YJ hm aG7 (u:= .int .i32 1) (v:= .int .i32 1) rfl rfl;refine ľ b l w (λw''=>∃i,Hw i h2 w''/\LR U w i w'') _ ?_ c0 c1 f0 f1 ?_
      .refine((hs.2 293 _ _ _ _ L).2 U _ #[.pointer (some ⟨b,0,none⟩)] vz hg ⟨_,_,rfl,⟨b,hm,rfl⟩,rfl⟩).mono λe w' he=>?_;cases e with
       |returned v=>obtain⟨i,kG,Tn,_,_⟩:=he;have Ww:=Tn.le.mu _ _ hm;obtain⟨z0,y0,Z,o⟩:=kG.R2 KS Ww V;obtain⟨R,y1,Y,m⟩:=kG.R2 KS Ww T;cases o;cases m;exact⟨⟨v,rfl⟩,⟨i,kG,mb.trans Tn⟩,Z,Y,z0,R⟩
       |_=>exact he.elim
      .rintro w'' ⟨i,kG,Tn⟩;have Ww:=Tn.le.mu _ _ hm;obtain⟨Ļ,mg⟩:=kG.LW ((Below.refl _ _).drew);obtain⟨z,C⟩:=Ļ.ļ KS Ww aG8 (u:= .int .u32 1) (v:= .int .u32 1) rfl rfl;obtain⟨j,B⟩:=z.ļ (AD zZ) Ww gh (u:= .int .i32 0) (v:= .int .i32 0) rfl rfl;obtain⟨_,y3,X,O,t,S⟩:=j.R2 k Ww G;subst t;refine⟨O,X,?_⟩;have JI:=((Tn.trans mg).trans C).trans B;refine((hs.2 367 _ _ _ _ E).2 i _ #[O,l] j (λg cs Õ=>CQ.mono JI.le cs g 0 (hg g cs Õ)) ⟨_,_,rfl,S,_,_,rfl,BH.mono JI.le _ _ Ò,rfl⟩).mono λe w' he=>?_;cases e with
       |returned v=>obtain⟨U6,y,A,x,_⟩:=he;exact⟨⟨v,rfl⟩,U6,y,JI.trans A,x,λe=>by cases e⟩
       |_=>exact he.elim
     .cases AH
    .cases AH
   .cases AH
  .cases AH
 .cases AH
end Go.Am
