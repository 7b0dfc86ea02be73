/- Lemmas -/
import Derived.Test.YtgmhlaiafgkmeaaGreatDoorN15
import Derived.Conc.MuLone
set_option linter.all false
namespace Go.Am
open Go Go.RowKit Go.Shelf
section
variable{U U':Gh}{h:Ab}{w w':World}
def Dp.bU(hi:Dp U h w){id g j:Nat}{cs:List Aa}(hcs:h[id]?=some (.cells cs))(hg:U.mu id=some g)(hj:j<cs.length){u:Aa}{v:Value}(hv:Au U u v)(h1:v.oneCell'=true):
  Dp U (h.set id (.cells (cs.set j u))) (w.setCell ⟨g,j,none⟩ v)/\FC U w U (w.setCell ⟨g,j,none⟩ v):=by
 obtain⟨us,e,fr,p1,p2,p3,p4⟩:=hi.cells id cs hcs g hg;have hl:cs.length<=us.size:=by have:=p3.length;simp at this;omega
 rw[setCell_eq_setRow w g j us e fr v p1];have w6:(us.setIfInBounds j v).toList.take (cs.set j u).length=(us.toList.take cs.length).set j v:=by simp[List.take_set]
 refine Gs hi hcs hg p1 _ _ (by simp) (by simpa using p2) ?_ ?_
 .rw[w6];refine Ai.C2 (by simp;omega) λi a x ha hx=>?_;by_cases w7:j=i;.subst w7;rw[AD (by omega)] at ha;rw[AD (by simp;omega)] at hx;cases ha;cases hx;exact hv
  .rw[AB w7] at ha hx;obtain⟨x',q1,q2⟩:=p3.get ha;rw[hx] at q1;cases q1;exact q2
 .rw[w6];intro x hx;rcases List.mem_or_eq_of_mem_set hx with hx|rfl
  .exact p4 x hx
  .exact h1
def Dp.JB(hi:Dp U h w){id g j:Nat}{cs:List Aa}{u:Aa}(hcs:h[id]?=some (.cells cs))(hg:U.mu id=some g)(hj:cs[j]?=some u):
  w.frozen? ⟨g,j,none⟩=false/\∃x,w.cell? ⟨g,j,none⟩=some x/\Au U u x:=by
 obtain⟨x,q1,_,q2⟩:=GA hi hcs hg hj;obtain⟨us,e,fr,p1,p2,p3,p4⟩:=hi.cells id cs hcs g hg;have hl:cs.length<=us.size:=by have:=p3.length;simp at this;omega
 have:=(Af.1 hj).1;refine⟨?_,x,q1,q2⟩;simp only[World.frozen?,p1];rcases p2 with rfl|QT
 .simp
 .simp;omega
end
abbrev iT:Go.Conc.Locks.MuLink:={lock:=341,unlock:=342,ilock:=351,iunlock:=352,lockSlow:=363,unlockSlow:=366,disable:=359,enable:=361,acquire:=362,relMerge:=364,cas32:=360,add32:=365,tMutex:=322,tIMutex:=320,tPMutex:=368,tPIMutex:=383,tPI32:=385,tUP:=296,tNoCopy:=315,tU32:=257}
open Proofs in
def iU:Go.Conc.Locks.MuLib Proofs.Tryz.prog iT:=
 ⟨Tryz.func341,Tryz.func342,Tryz.func351,Tryz.func352,Tryz.func359,Tryz.func361,Tryz.func362,Tryz.func364,Tryz.func360,Tryz.func365,
  Tryz.underlying320,Tryz.runUnderlying320,Tryz.sizeOf320,Tryz.isAgg320,Tryz.zeroValue320,Tryz.underlying322,Tryz.runUnderlying322,Tryz.sizeOf322,Tryz.isAgg322,Tryz.zeroValue322,
  Tryz.underlying368,Tryz.runUnderlying368,Tryz.sizeOf368,Tryz.isAgg368,Tryz.zeroValue368,Tryz.underlying383,Tryz.runUnderlying383,Tryz.sizeOf383,Tryz.isAgg383,Tryz.zeroValue383,
  Tryz.underlying385,Tryz.runUnderlying385,Tryz.sizeOf385,Tryz.isAgg385,Tryz.zeroValue385,Tryz.underlying296,Tryz.runUnderlying296,Tryz.sizeOf296,Tryz.isAgg296,Tryz.zeroValue296,
  Tryz.underlying315,Tryz.runUnderlying315,Tryz.sizeOf315,Tryz.isAgg315,Tryz.zeroValue315,Tryz.underlying21,Tryz.runUnderlying21,Tryz.sizeOf21,Tryz.isAgg21,Tryz.zeroValue21,(by kernel_rfl)⟩
def L8(a:Addr)(x:Value)(u:FrameMode)(w:World)(hc:w.cell? a=some x)(hz:w.frozen? a=false):
  CallsD Proofs.Tryz.prog 343 #[.pointer (some a),.bool true] u w λe u' w'=>u'=u/\(e= .returned (.tuple #[])/\w'=w.drew.setCell a (.int .u32 1)):=by
 have fR:w.drew.cell? a=some x:=by go_simp
 have Mq:w.drew.frozen? a=false:=by go_simp
 have Ex:=run_call_store (P:=Proofs.Tryz.prog) Proofs.Tryz.func353 (by kernel_rfl) (by kernel_rfl) (by kernel_rfl) (by kernel_rfl) (k:= .u32) (y:=1) fR Mq;go_enter_d Proofs.Tryz.func343,Proofs.Tryz.ntmps343
 go_wp2
 go_region_calls
 all_goals (go_end0;exact⟨rfl,rfl⟩)
def Rd(a:Addr)(d:Int)(w:World)(h0:w.cell? a=some (.int .u32 d)):Calls Proofs.Tryz.prog 333 #[.pointer (some a)] w λe w'=>e= .returned (.bool (d != 0))/\w=w':=by
 have hl:=run_call_load (P:=Proofs.Tryz.prog) Proofs.Tryz.func340 (by kernel_rfl) (by kernel_rfl) (by kernel_rfl) .u32 (by kernel_rfl) h0;go_enter Proofs.Tryz.func333,Proofs.Tryz.ntmps333
 go_wp2
 go_ret
 exact⟨rfl,rfl⟩
abbrev P4(b:Nat)(r:Value)(w:World)(Q:World->Prop):Prop:=
 Calls Proofs.Tryz.prog 329 #[r] (w.setCell ⟨b,1,none⟩ (.int .i32 1)) λe w'=>(∃v,e= .returned v)/\Q w'/\w'.cell? ⟨b,0,none⟩=some (.int .u32 0)/\w'.cell? ⟨b,1,none⟩=some (.int .i32 1)/\w'.frozen? ⟨b,0,none⟩=false/\w'.frozen? ⟨b,1,none⟩=false
set_option maxRecDepth 100000 in
set_option maxHeartbeats 1600000 in
def V4(b:Nat)(r:Value)(w:World)(Q:World->Prop)(hd:P4 b r w Q)
  (h0:w.cell? ⟨b,0,none⟩=some (.int .u32 0)) (h1:w.cell? ⟨b,1,none⟩=some (.int .i32 0))
  (f0:w.frozen? ⟨b,0,none⟩=false) (f1:w.frozen? ⟨b,1,none⟩=false):
  Calls Proofs.Tryz.prog 334 #[.pointer (some ⟨b,0,none⟩),.func (.func 329) #[r] #[]] w λe w'=>e= .returned (.tuple #[])/\
   ∃w'',Q w''/\w'=(w''.drew.setCell ⟨b,0,none⟩ (.int .u32 1)).setCell ⟨b,1,none⟩ (.int .i32 0):=by
 have l0:(w.setCell ⟨b,1,none⟩ (.int .i32 1)).cell? ⟨b,0,none⟩=some (.int .u32 0):=(World.cell?_setCell_other _ ⟨b,1,none⟩ ⟨b,0,none⟩ _ (by simp)).trans h0;have bJ:∀(x:Bool) (w:World),(Op.unary .not (.bool x)).run Proofs.Tryz.prog w= .ok (.bool (!x)) w:=λ_ _=>rfl;go_enter_defers Proofs.Tryz.func334,Proofs.Tryz.ntmps334
 go_wp2_with (first|(go_at_call 341;refine(MuLone.lock_free iU ⟨b,1,none⟩ _ (by go_simp) (by go_simp)).mono ?_;rintro e w' ⟨rfl,rfl⟩)|(go_at_call 333;refine(Rd _ 0 _ l0).mono ?_;rintro e w' ⟨rfl,rfl⟩)|(go_at_call 329;refine hd.mono ?_;rintro e w' ⟨⟨v,rfl⟩,hq,c0,c1,z0,z1⟩))
 refine leaves_cons (f:=343) (args:=#[.pointer (some ⟨b,0,none⟩),.bool true]) (by simp) (by simp[go_sem]) ?_;refine(L8 ⟨b,0,none⟩ (.int .u32 0) .returning _ c0 z0).mono ?_;rintro e u' w'' ⟨rfl,rfl,rfl⟩;refine leaves_cons (f:=342) (args:=#[.pointer (some ⟨b,1,none⟩)]) (by simp[settle]) (by simp[go_sem]) ?_;refine(MuLone.unlock_deferred iU ⟨b,1,none⟩ _ _ ?_ (by simp[z1])).mono ?_;.exact(World.cell?_setCell_other _ ⟨b,0,none⟩ ⟨b,1,none⟩ _ (by simp)).trans (by rw[World.cell?_drew];exact c1)
 rintro e u' w'' ⟨rfl,rfl,rfl⟩;simp[Leaves,settle,results,Proofs.Tryz.results334];exact⟨_,hq,rfl⟩
set_option maxRecDepth 100000 in
set_option maxHeartbeats 1600000 in
def iV(b:Nat)(r:Value)(w:World)(Q:World->Prop)(hd:P4 b r w Q)
  (h0:w.cell? ⟨b,0,none⟩=some (.int .u32 0)) (h1:w.cell? ⟨b,1,none⟩=some (.int .i32 0))
  (f0:w.frozen? ⟨b,0,none⟩=false) (f1:w.frozen? ⟨b,1,none⟩=false):
  Calls Proofs.Tryz.prog 328 #[.pointer (some ⟨b,0,none⟩),.func (.func 329) #[r] #[]] w λe w'=>e= .returned (.tuple #[])/\
   ∃w'',Q w''/\w'=(w''.drew.setCell ⟨b,0,none⟩ (.int .u32 1)).setCell ⟨b,1,none⟩ (.int .i32 0):=by
 have bJ:∀(x:Bool) (w:World),(Op.unary .not (.bool x)).run Proofs.Tryz.prog w= .ok (.bool (!x)) w:=λ_ _=>rfl;go_enter Proofs.Tryz.func328,Proofs.Tryz.ntmps328
 go_wp2_with (first|(go_at_call 333;refine(Rd _ 0 _ h0).mono ?_;rintro e w' ⟨rfl,rfl⟩)|(go_at_call 334;refine(V4 b r w Q hd h0 h1 f0 f1).mono ?_;rintro e w' ⟨rfl,w'',hq,rfl⟩))
 go_end0
 exact⟨rfl,w'',hq,rfl⟩
def bV(x:Value)(w:World):(method 524 364 x "Replace").run Proofs.Tryz.prog w= .ok (401,x) w:=by kernel_rfl
set_option maxRecDepth 100000 in
set_option maxHeartbeats 1600000 in
def bW(b:Nat)(s:Value)(w:World)(Q:World->Prop)(R:Ending->World->Prop)(hd:P4 b (.pointer (some ⟨b,0,none⟩)) w Q)
  (h0:w.cell? ⟨b,0,none⟩=some (.int .u32 0)) (h1:w.cell? ⟨b,1,none⟩=some (.int .i32 0))
  (f0:w.frozen? ⟨b,0,none⟩=false) (f1:w.frozen? ⟨b,1,none⟩=false)
  (hq:∀w'',Q w''->∃x,((w''.drew.setCell ⟨b,0,none⟩ (.int .u32 1)).setCell ⟨b,1,none⟩ (.int .i32 0)).cell? ⟨b,3,none⟩=some (.iface 364 x)/\
   Calls Proofs.Tryz.prog 401 #[x,s] ((w''.drew.setCell ⟨b,0,none⟩ (.int .u32 1)).setCell ⟨b,1,none⟩ (.int .i32 0)) λe w'=>(∃v,e= .returned v)/\R e w'):
  Calls Proofs.Tryz.prog 318 #[.pointer (some ⟨b,0,none⟩),s] w R:=by
 have bp:∀(fn:Fn) (first cap:Array Value) (w:World),(Instr.makeFunc fn first cap).run Proofs.Tryz.prog w= .ok (.func fn first cap) w:=λ_ _ _ _=>rfl;have fQ:=bV;go_enter Proofs.Tryz.func318,Proofs.Tryz.ntmps318
 go_wp2_with (first|(go_at_call 328;refine(iV b _ w Q hd h0 h1 f0 f1).mono ?_;clear hd h0 h1 f0 f1;rintro e w' ⟨rfl,w'',bq,fI⟩;obtain⟨x,hx,hc⟩:=hq w'' bq;rw[<-fI] at hx hc;clear hq fI)|(go_at_call 401;refine hc.mono ?_;rintro e w2 ⟨⟨v,rfl⟩,hr⟩))
 exact hr
variable{h:Ab}
def Ug{id:Nat}{v:Aa}(e:Ck h (some 3) (.ptr (some (id,0)))=some v):∃cs,h[id]?=some (.cells cs)/\3<=cs.length/\v= .agg (cs.take 3):=by
 simp only[Ck] at e;split at e
 .rename_i cs hc;simp only[Cj] at e;split at e;.rename_i hl;cases e;exact⟨cs,hc,by omega,rfl⟩
  .cases e
 .cases e
def NU{id o:Nat}{v:Aa}{h1:Ab}(hv:v.cells=[v])(e:Dy h 1 (.ptr (some (id,o))) v=some h1):∃cs,h[id]?=some (.cells cs)/\o<cs.length/\h1=h.set id (.cells (cs.set o v)):=by
 simp only[Dy] at e;split at e
 .rename_i cs hc;split at e
  .rename_i hl;have w8:o<cs.length:=by omega
   have hs:cs.take o++[v]++cs.drop (o+1)=cs.set o v:=by rw[N9,if_pos w8];simp
   rw[hv,hs] at e;cases e;exact⟨cs,hc,w8,rfl⟩
  .cases e
 .cases e
def M3{cs:List Aa}{a b c:Aa}(e:Aa.agg (cs.take 3)= .agg [a,b,c]):cs[0]?=some a/\cs[1]?=some b/\cs[2]?=some c:=by
 injection e with e
 match cs,e with
 |a'::b'::c'::l,e=>simp at e;simp[e]
 |[_,_],e=>simp at e
 |[_],e=>simp at e
 |[],e=>simp at e
set_option maxHeartbeats 1000000 in
def V5(n:Nat)(hs:Ca cx (IT.run (AH cx) n))(args:List Aa)(r:Aa)(h':Ab)(Ad:IT.step (AH cx) (IT.run (AH cx) n) (L7 329 401 364 args) h=some (.ret,[r],h')):
  (∃fn c,cx.P.funcs[B4 318]?=some fn/\(fn.name== "runtime.NumGoroutine")=false/\fn.body=some c)/\
  ∀(U:Gh) (w:World) (cargs:Array Value),Dp U h w->(∀g cs,cx.C8 g=some cs->Bb U cs g 0)->Ai U args cargs.toList->
   Calls cx.P (B4 318) cargs w λe w'=>match e with
    | .returned v=>∃U',Dp U' h' w'/\FC U w U' w'/\Au U' r v/\(cx.Et 318=true->∃s c,D2 U' w.heap.size w' s c v r)
    |_=>False:=by
 refine⟨⟨_,_,Proofs.Tryz.func318,rfl,rfl⟩,λU w cargs hi hg ha=>?_⟩;unfold L7 at Ad;split at Ad
 .rename_i id s;simp only[IT.step] at Ad;cases e1:Ck h (some 3) (.ptr (some (id,0))) with
  |none=>simp[e1] at Ad
  |some v1=>
  simp only[e1] at Ad;split at Ad
  .rename_i Q7;have Q7:=Aa.beq_eq Q7;cases e2:Dy h 1 (.ptr (some (id,1))) (.int .i32 1) with
   |none=>simp[e2] at Ad
   |some h1=>
   simp only[e2] at Ad;cases e3:IT.run (AH cx) n (AH cx 329 [.ptr (some (id,0))]) h1 with
   |none=>simp[e3] at Ad
   |some R3=>
   simp only[e3] at Ad;split at Ad
   .rename_i r3 h2 EI;cases EI;cases e4:Ck h2 (some 3) (.ptr (some (id,0))) with
    |none=>simp[e4] at Ad
    |some v4=>
    simp only[e4] at Ad;split at Ad
    .rename_i iW;have iW:=Aa.beq_eq iW;cases e5:Dy h2 1 (.ptr (some (id,0))) (.int .u32 1) with
     |none=>simp[e5] at Ad
     |some h3=>
     simp only[e5] at Ad;cases e6:Dy h3 1 (.ptr (some (id,1))) (.int .i32 0) with
     |none=>simp[e6] at Ad
     |some h4=>
     simp only[e6] at Ad;cases e7:Ck h4 none (.ptr (some (id,3))) with
     |none=>simp[e7] at Ad
     |some v7=>
     simp only[e7,Je] at Ad;cases e8:P2 364 h4 [v7] with
     |none=>simp[e8] at Ad
     |some R8=>
     obtain⟨h8,u⟩:=R8;simp only[e8] at Ad;have br:v7= .iface 364 u/\h8=h4:=by
      cases v7 with
      |iface t' v=>
       simp only[P2] at e8;split at e8;.rename_i ht;cases e8;subst ht;exact⟨rfl,rfl⟩
       .cases e8
      |_=>cases e8
     obtain⟨rfl,rfl⟩:=br;cases e9:IT.run (AH cx) n (AH cx 401 [u,s]) h8 with
     |none=>simp[e9] at Ad
     |some R9=>
     simp only[e9] at Ad;split at Ad
     .rename_i r9 h9 EI;cases EI;cases Ad;obtain⟨cs,S1,wZ,rfl⟩:=Ug e1;obtain⟨g0,g1,g2⟩:=M3 Q7;obtain⟨Dz,iX,tM,rfl⟩:=NU rfl e2;rw[S1] at iX;cases iX;obtain⟨fO,LM,w9,rfl⟩:=Ug e4;obtain⟨k0,k1,k2⟩:=M3 iW;obtain⟨bt,iY,tN,rfl⟩:=NU rfl e5;rw[LM] at iY;cases iY;obtain⟨js,xA,V6,rfl⟩:=NU rfl e6;have Sn:id<h2.length:=(Af.1 LM).1;have bu:id<h.length:=(Af.1 S1).1;rw[AD Sn] at xA;cases xA;have xB:((h2.set id (.cells (fO.set 0 (.int .u32 1)))).set id (.cells ((fO.set 0 (.int .u32 1)).set 1 (.int .i32 0))))[id]?=some (.cells ((fO.set 0 (.int .u32 1)).set 1 (.int .i32 0))):=AD (by simpa using Sn);have bw:((fO.set 0 (.int .u32 1)).set 1 (.int .i32 0))[3]?=some (.iface 364 u):=by simpa only[Ck,xB,Cj] using e7
      obtain⟨v0,us,ZL,⟨b,hm,rfl⟩,sv,By,rfl,ZB,hnil⟩:=ha;cases hnil;have hcargs:cargs=#[.pointer (some ⟨b,0,none⟩),sv]:=by apply Dh;simpa using ZL
      subst hcargs;obtain⟨f0,x0,c0,bx⟩:=hi.JB S1 hm g0;obtain⟨f1,x1,c1,bz⟩:=hi.JB S1 hm g1;cases bx;cases bz;obtain⟨b_,tE⟩:=hi.bU S1 hm tM (u:= .int .i32 1) (v:= .int .i32 1) rfl rfl;refine bW b sv w (λw''=>∃U2,Dp U2 h2 w''/\FC U w U2 w'') _ ?_ c0 c1 f0 f1 ?_
      .refine((hs.2 329 _ _ _ _ e3).2 U _ #[.pointer (some ⟨b,0,none⟩)] b_ hg ⟨_,_,rfl,⟨b,hm,rfl⟩,rfl⟩).mono λe w' he=>?_;cases e with
       |returned v=>obtain⟨U2,Pl,N8,_,_⟩:=he;have ND:=N8.le.mu _ _ hm;obtain⟨z0,y0,d0,ca⟩:=Pl.JB LM ND k0;obtain⟨z1,y1,d1,cb⟩:=Pl.JB LM ND k1;cases ca;cases cb;exact⟨⟨v,rfl⟩,⟨U2,Pl,tE.trans N8⟩,d0,d1,z0,z1⟩
       |_=>exact he.elim
      .rintro w'' ⟨U2,Pl,N8⟩;have ND:=N8.le.mu _ _ hm;obtain⟨bT,tK⟩:=Pl.FG ((Below.refl _ _).drew);obtain⟨cc,cf⟩:=bT.bU LM ND tN (u:= .int .u32 1) (v:= .int .u32 1) rfl rfl;obtain⟨xC,cg⟩:=cc.bU (AD Sn) ND V6 (u:= .int .i32 0) (v:= .int .i32 0) rfl rfl;obtain⟨_,y3,d3,uu,cj,ru⟩:=xC.JB xB ND bw;subst cj;refine⟨uu,d3,?_⟩;have EA:=((N8.trans tK).trans cf).trans cg;refine((hs.2 401 _ _ _ _ e9).2 U2 _ #[uu,sv] xC (λg cs ZG=>Bb.mono EA.le cs g 0 (hg g cs ZG)) ⟨_,_,rfl,ru,_,_,rfl,Au.mono EA.le _ _ ZB,rfl⟩).mono λe w' he=>?_;cases e with
       |returned v=>obtain⟨U6,cl,cm,cn,_⟩:=he;exact⟨⟨v,rfl⟩,U6,cl,EA.trans cm,cn,λe=>by cases e⟩
       |_=>exact he.elim
     .cases Ad
    .cases Ad
   .cases Ad
  .cases Ad
 .cases Ad
end Go.Am
